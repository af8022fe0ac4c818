/-
  THE WALK OF FnPartsFromExact: every way.
-/
import Derived.Test.Qxb6600215aModsPartsMain
namespace Go.Proofs.Qxb6600215aMods
open Go.RowKit

set_option maxRecDepth 100000 in
set_option maxHeartbeats 1000000 in
/-- The ways that end at a bound. -/
theorem partsExact_early (a0 : Option Addr) (n0 c0 : Nat) (a1 : Option Addr) (n1 c1 : Nat) (key x : ByteArray) (F T : Nat → ByteArray) (w : World) (h0 : Hid (StrRow w a0 n0 F)) (h1 : Hid (StrRow w a1 n1 T))
    (h : 65536 < n0 ∨ 65536 < n1 ∨ n0 ≠ n1) :
    Calls Trym.prog 8 #[.slice a0 n0 c0, .slice a1 n1 c1, .string key, .string x] w fun e w' => e = .returned (.bool true) ∧ Below w.heap.size w w' := by
  have hm0 := h0.out.1
  have hm1 := h1.out.1
  by_cases t0 : (65536 : Int) < (n0 : Int)
  · go_enter Trym.func8, Trym.ntmps8
    go_wp2_with fail
    refine (bytesParts_any _ _ _ _ _ _ _ _ F T _ h0 h1).mono ?_
    rintro e w ⟨⟨b, rfl⟩, rfl⟩
    cases b <;> (go_wp2; go_ret; exact ⟨rfl, Below.refl _ _⟩)
  by_cases t1 : (65536 : Int) < (n1 : Int)
  · go_enter Trym.func8, Trym.ntmps8
    go_wp2_with fail
    refine (bytesParts_any _ _ _ _ _ _ _ _ F T _ h0 h1).mono ?_
    rintro e w ⟨⟨b, rfl⟩, rfl⟩
    cases b <;> (go_wp2; go_ret; exact ⟨rfl, Below.refl _ _⟩)
  have t4 : ((n0 : Int) != (n1 : Int)) = true := by simp; omega
  clear h
  go_enter Trym.func8, Trym.ntmps8
  go_wp2_with fail
  refine (bytesParts_any _ _ _ _ _ _ _ _ F T _ h0 h1).mono ?_
  rintro e w ⟨⟨b, rfl⟩, rfl⟩
  cases b
  · go_wp2
    go_ret
    exact ⟨rfl, Below.refl _ _⟩
  go_wp2_with fail
  refine (addStr_any _ _ _).mono ?_
  rintro e w ⟨⟨r1, rfl⟩, rfl⟩
  go_wp2_with fail
  refine (addStr_any _ _ _).mono ?_
  rintro e w ⟨⟨r2, rfl⟩, rfl⟩
  go_wp2_with fail
  refine (addStrs_any _ _ _ _ F _ h0.out).mono ?_
  rintro e w ⟨⟨r3, rfl⟩, rfl⟩
  go_wp2_with fail
  refine (addStrs_any _ _ _ _ T _ h1.out).mono ?_
  rintro e w ⟨⟨r, rfl⟩, rfl⟩
  go_wp2
  all_goals (go_ret; exact ⟨rfl, Below.refl _ _⟩)

theorem partsExact_any (a0 : Option Addr) (n0 c0 : Nat) (a1 : Option Addr) (n1 c1 : Nat) (key x : ByteArray) (F T : Nat → ByteArray) (w : World) (h0 : StrRow w a0 n0 F) (h1 : StrRow w a1 n1 T) :
    Calls Trym.prog 8 #[.slice a0 n0 c0, .slice a1 n1 c1, .string key, .string x] w fun e w' => e = .returned (.bool true) ∧ Below w.heap.size w w' := by
  by_cases he : 65536 < n0 ∨ 65536 < n1 ∨ n0 ≠ n1
  · exact partsExact_early a0 n0 c0 a1 n1 c1 key x F T w h0 h1 he
  · obtain rfl : n0 = n1 := by omega
    exact partsExact_main a0 c0 a1 n0 c1 key x F T w (by omega) h0 h1

end Go.Proofs.Qxb6600215aMods
