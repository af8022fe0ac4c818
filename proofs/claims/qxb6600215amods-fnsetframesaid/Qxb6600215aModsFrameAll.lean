/-
  THE WALK OF FnSetFrame: every way.
-/
import Derived.Test.Qxb6600215aModsFrameMain
namespace Go.Proofs.Qxb6600215aMods
open Go.RowKit

set_option maxRecDepth 100000 in
set_option maxHeartbeats 1000000 in
/-- The ways that end at a bound. -/
theorem frame_early (a0 : Option Addr) (n0 c0 : Nat) (a1 : Option Addr) (n1 c1 : Nat) (a2 : Option Addr) (n2 c2 : Nat) (tn : Int) (ts : ByteArray) (m : Int) (pn : Int) (ps : ByteArray) (S : Nat → ByteArray) (w : World) (hrow : StrRow w a1 n1 S)
    (hm0 : n0 ≤ 9223372036854775807) (hm2 : n2 ≤ 9223372036854775807)
    (h : 65536 < n0 ∨ 65536 < n1 ∨ 65536 < n2 ∨ n1 ≠ n0 ∨ n2 ≠ n0) :
    Calls Trym.prog 6 #[.slice a0 n0 c0, .slice a1 n1 c1, .slice a2 n2 c2, .int .u64 tn, .string ts, .int .u8 m, .int .u64 pn, .string ps] w fun e w' => e = .returned (.bool true) ∧ Below w.heap.size w w' := by
  have hm1 := hrow.1
  by_cases t0 : (65536 : Int) < (n0 : Int)
  · go_enter Trym.func6, Trym.ntmps6
    go_wp2_with fail
    refine (bytesFrame_any _ _ _ _ _ _ _ _ _ _ _ _ _ _ S _ hrow).mono ?_
    rintro e w ⟨⟨b, rfl⟩, rfl⟩
    cases b <;> (go_wp2; go_ret; exact ⟨rfl, Below.refl _ _⟩)
  by_cases t1 : (65536 : Int) < (n1 : Int)
  · go_enter Trym.func6, Trym.ntmps6
    go_wp2_with fail
    refine (bytesFrame_any _ _ _ _ _ _ _ _ _ _ _ _ _ _ S _ hrow).mono ?_
    rintro e w ⟨⟨b, rfl⟩, rfl⟩
    cases b <;> (go_wp2; go_ret; exact ⟨rfl, Below.refl _ _⟩)
  by_cases t2 : (65536 : Int) < (n2 : Int)
  · go_enter Trym.func6, Trym.ntmps6
    go_wp2_with fail
    refine (bytesFrame_any _ _ _ _ _ _ _ _ _ _ _ _ _ _ S _ hrow).mono ?_
    rintro e w ⟨⟨b, rfl⟩, rfl⟩
    cases b <;> (go_wp2; go_ret; exact ⟨rfl, Below.refl _ _⟩)
  by_cases t3 : n1 = n0
  · subst t3
    have t4 : ((n2 : Int) != (n1 : Int)) = true := by simp; omega
    have t5 : ((n1 : Int) != (n1 : Int)) = false := by simp
    clear h
    go_enter Trym.func6, Trym.ntmps6
    go_wp2_with fail
    refine (bytesFrame_any _ _ _ _ _ _ _ _ _ _ _ _ _ _ S _ hrow).mono ?_
    rintro e w ⟨⟨b, rfl⟩, rfl⟩
    cases b
    · go_wp2
      go_ret
      exact ⟨rfl, Below.refl _ _⟩
    go_wp2_with fail
    refine (addStrs_any _ _ _ _ S _ hrow).mono ?_
    rintro e w ⟨⟨r1, rfl⟩, rfl⟩
    go_wp2_with fail
    refine (addStr_any _ _ _).mono ?_
    rintro e w ⟨⟨r2, rfl⟩, rfl⟩
    go_wp2_with fail
    refine (addStr_any _ _ _).mono ?_
    rintro e w ⟨⟨r, rfl⟩, rfl⟩
    go_wp2
    all_goals (go_ret; exact ⟨rfl, Below.refl _ _⟩)
  · have t4 : ((n1 : Int) != (n0 : Int)) = true := by simp; omega
    clear h
    go_enter Trym.func6, Trym.ntmps6
    go_wp2_with fail
    refine (bytesFrame_any _ _ _ _ _ _ _ _ _ _ _ _ _ _ S _ hrow).mono ?_
    rintro e w ⟨⟨b, rfl⟩, rfl⟩
    cases b
    · go_wp2
      go_ret
      exact ⟨rfl, Below.refl _ _⟩
    go_wp2_with fail
    refine (addStrs_any _ _ _ _ S _ hrow).mono ?_
    rintro e w ⟨⟨r1, rfl⟩, rfl⟩
    go_wp2_with fail
    refine (addStr_any _ _ _).mono ?_
    rintro e w ⟨⟨r2, rfl⟩, rfl⟩
    go_wp2_with fail
    refine (addStr_any _ _ _).mono ?_
    rintro e w ⟨⟨r, rfl⟩, rfl⟩
    go_wp2
    all_goals (go_ret; exact ⟨rfl, Below.refl _ _⟩)

theorem frame_any (a0 : Option Addr) (n0 c0 : Nat) (a1 : Option Addr) (n1 c1 : Nat) (a2 : Option Addr) (n2 c2 : Nat) (tn : Int) (ts : ByteArray) (m : Int) (pn : Int) (ps : ByteArray) (N : Nat → Int) (S : Nat → ByteArray) (M : Nat → Int) (w : World)
    (h0 : IntRow .u64 w a0 n0 N) (h1 : StrRow w a1 n1 S) (h2 : IntRow .u8 w a2 n2 M) :
    Calls Trym.prog 6 #[.slice a0 n0 c0, .slice a1 n1 c1, .slice a2 n2 c2, .int .u64 tn, .string ts, .int .u8 m, .int .u64 pn, .string ps] w fun e w' => e = .returned (.bool true) ∧ Below w.heap.size w w' := by
  by_cases he : 65536 < n0 ∨ 65536 < n1 ∨ 65536 < n2 ∨ n1 ≠ n0 ∨ n2 ≠ n0
  · exact frame_early a0 n0 c0 a1 n1 c1 a2 n2 c2 tn ts m pn ps S w h1 h0.1 h2.1 he
  · obtain rfl : n1 = n0 := by omega
    obtain rfl : n2 = n1 := by omega
    exact frame_main a0 c0 a1 c1 a2 n2 c2 tn ts m pn ps N S M w (by omega) h0 h1 h2

end Go.Proofs.Qxb6600215aMods
