/-
  THE WALK OF FnGapsAmongMembership: every way.
-/
import Derived.Test.Qxb6600215aModsGapsMain
namespace Go.Proofs.Qxb6600215aMods
open Go.RowKit

set_option maxRecDepth 100000 in
set_option maxHeartbeats 1000000 in
/-- The ways that end at a bound. -/
theorem gapsMember_early (rf rt : ByteArray) (a0 : Option Addr) (n0 c0 : Nat) (a1 : Option Addr) (n1 c1 : Nat) (x : ByteArray) (F T : Nat → ByteArray) (w : World) (h0 : Hid (StrRow w a0 n0 F)) (h1 : Hid (StrRow w a1 n1 T))
    (h : 65536 < n0 ∨ 65536 < n1) :
    Calls Trym.prog 3 #[.string rf, .string rt, .slice a0 n0 c0, .slice a1 n1 c1, .string x] w fun e w' => e = .returned (.bool true) ∧ Below w.heap.size w w' := by
  have hm0 := h0.out.1
  have hm1 := h1.out.1
  by_cases t0 : (65536 : Int) < (n0 : Int)
  · go_enter Trym.func3, Trym.ntmps3
    go_wp2_with fail
    refine (bytesGaps_any _ _ _ _ _ _ _ _ _ F T _ h0 h1).mono ?_
    rintro e w ⟨⟨b, rfl⟩, rfl⟩
    cases b <;> (go_wp2; go_ret; exact ⟨rfl, Below.refl _ _⟩)
  have t1 : (65536 : Int) < (n1 : Int) := by omega
  go_enter Trym.func3, Trym.ntmps3
  go_wp2_with fail
  refine (bytesGaps_any _ _ _ _ _ _ _ _ _ F T _ h0 h1).mono ?_
  rintro e w ⟨⟨b, rfl⟩, rfl⟩
  cases b <;> (go_wp2; go_ret; exact ⟨rfl, Below.refl _ _⟩)

theorem gapsMember_any (rf rt : ByteArray) (a0 : Option Addr) (n0 c0 : Nat) (a1 : Option Addr) (n1 c1 : Nat) (x : ByteArray) (F T : Nat → ByteArray) (w : World) (h0 : StrRow w a0 n0 F) (h1 : StrRow w a1 n1 T) :
    Calls Trym.prog 3 #[.string rf, .string rt, .slice a0 n0 c0, .slice a1 n1 c1, .string x] w fun e w' => e = .returned (.bool true) ∧ Below w.heap.size w w' := by
  by_cases he : 65536 < n0 ∨ 65536 < n1
  · exact gapsMember_early rf rt a0 n0 c0 a1 n1 c1 x F T w h0 h1 he
  · exact gapsMember_main rf rt a0 n0 c0 a1 n1 c1 x F T w (by omega) (by omega) h0 h1

end Go.Proofs.Qxb6600215aMods
