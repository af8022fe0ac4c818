/-
  THE WALK OF zzb1HeldFits: what it says where it answers true.
-/
import Derived.Test.Qxb6600215aModsRangeRows
import Derived.Test.Qxb6600215aModsBounds2
import Derived.Deep.QuietTactic
import Derived.BigQuiet
namespace Go.Proofs.Qxb6600215aMods
open Go.RowKit

/-- The first k held ranges touch [rf, rt) and stand in ascending order. -/
def Fit (F T : Nat → ByteArray) (rf rt : ByteArray) (k : Nat) : Prop := ∀ i, i < k → zto rf rt (F i) (T i) = true ∧ (0 < i → sl (F i) (F (i - 1)) = false)
theorem fit_succ {F T : Nat → ByteArray} {rf rt : ByteArray} {k : Nat} (h : Fit F T rf rt k) (h1 : zto rf rt (F k) (T k) = true) (h2 : 0 < k → sl (F k) (F (k - 1)) = false) : Fit F T rf rt (k + 1) := by
  intro i hi
  by_cases e : i = k
  · subst e; exact ⟨h1, h2⟩
  · exact h i (by omega)

/-- It returned a truth value; if true, P holds. -/
def IfTrue (P : Prop) (e : Ending) : Prop := ∃ b : Bool, e = .returned (.bool b) ∧ (b = true → P)

set_option maxRecDepth 100000 in
set_option maxHeartbeats 1000000 in
theorem fits_any (rf rt : ByteArray) (a0 : Option Addr) (n0 c0 : Nat) (a1 : Option Addr) (n1 c1 : Nat) (F T : Nat → ByteArray) (w : World) (h0 : Hid (StrRow w a0 n0 F)) (h1 : Hid (StrRow w a1 n1 T)) :
    Calls Trym.prog 13 #[.string rf, .string rt, .slice a0 n0 c0, .slice a1 n1 c1] w fun e w' => IfTrue (n0 = n1 ∧ Fit F T rf rt n0) e ∧ Below w.heap.size w w' := by
  have hm0 := h0.out.1
  have hm1 := h1.out.1
  by_cases hn : n0 = n1
  · subst hn
    have t2 : ((n0 : Int) != (n0 : Int)) = false := by simp
    go_enter Trym.func13, Trym.ntmps13
    go_wp2
    go_loopw [9] (fun i wr => ∃ k : Nat, k ≤ n0 ∧ i = .int .i64 k ∧ Fit F T rf rt k ∧ Below w.heap.size w wr) (fun i _ => n0 - (intOf i).toNat)
    case atStart => exact ⟨0, Nat.zero_le _, rfl, fun i hi => by omega, Below.refl _ _⟩
    case round =>
      obtain ⟨k, hk, rfl, hfit, hbel⟩ := hrel
      have Hfit : Hid (Fit F T rf rt k) := hfit
      have Hbel : Hid (Below w.heap.size w wr) := hbel
      clear hfit hbel
      by_cases hkn : k < n0
      · obtain ⟨b0, o0, e0, l0, d0⟩ := h0.out.at k hkn
        obtain ⟨b1, o1, e1, l1, d1⟩ := h1.out.at k hkn
        subst e0
        subst e1
        have d0 : wr.cell? ⟨b0, o0 + k, none⟩ = some (.string (F k)) := (Hbel.out.cell (p := ⟨b0, o0 + k, none⟩) l0).trans d0
        have d1 : wr.cell? ⟨b1, o1 + k, none⟩ = some (.string (T k)) := (Hbel.out.cell (p := ⟨b1, o1 + k, none⟩) l1).trans d1
        have i1 : (0 : Int) ≤ (k : Int) := by omega
        have i2 : (k : Int) < (n0 : Int) := by omega
        rcases Bool.eq_false_or_eq_true (zto rf rt (F k) (T k)) with hz | hz
        · by_cases hk0 : k = 0
          · subst hk0
            have Hf : Hid (Fit F T rf rt (0 + 1)) := fit_succ Hfit.out hz (fun h => by omega)
            clear h0 h1
            simp only [Nat.add_zero] at d0 d1
            go_wp2
            go_quiet ((go_at_call 33; exact Calls.quiet_of_same (touch_any _ _ _ _ _)))
            go_wp2
            go_quiet (fail)
            go_wp2
            go_roundw
            case rel => exact ⟨0 + 1, by omega, by go_num, Hf.out, below_drewN Hbel.out _⟩
            case measure => simp [intOf]; omega
          · have hk1 : k - 1 < n0 := by omega
            obtain ⟨b2, o2, e2, _, d2⟩ := h0.out.at (k - 1) hk1
            have e3 : (⟨b0, o0, none⟩ : Addr) = ⟨b2, o2, none⟩ := Option.some.inj e2
            have e4 : b0 = b2 := congrArg Addr.block e3
            have e5 : o0 = o2 := congrArg Addr.off e3
            subst e4
            subst e5
            have d2 : wr.cell? ⟨b0, o0 + (k - 1), none⟩ = some (.string (F (k - 1))) := (Hbel.out.cell (p := ⟨b0, o0 + (k - 1), none⟩) l0).trans d2
            clear h0 h1 e2 e3
            have i0 : (0 : Int) < (k : Int) := by omega
            have i3 : decide (0 < k) = true := by simp; omega
            have i4 : (k : Int) - 1 < (n0 : Int) := by omega
            have i5 : (0 : Int) ≤ (k : Int) - 1 := by omega
            have hgt := gt_raw (F (k - 1)) (F k)
            rcases Bool.eq_false_or_eq_true (sl (F k) (F (k - 1))) with h3 | h3
            · rw [h3] at hgt
              clear h3
              go_wp2
              go_quiet ((go_at_call 33; exact Calls.quiet_of_same (touch_any _ _ _ _ _)))
              go_wp2
              go_quiet (fail)
              go_wp2
              go_ret
              exact ⟨⟨_, rfl, fun h => by cases h⟩, below_drewN (below_drewN Hbel.out _) _⟩
            · rw [h3] at hgt
              have Hf : Hid (Fit F T rf rt (k + 1)) := fit_succ Hfit.out hz (fun _ => h3)
              clear h3
              go_wp2
              go_quiet ((go_at_call 33; exact Calls.quiet_of_same (touch_any _ _ _ _ _)))
              go_wp2
              go_quiet (fail)
              go_wp2
              go_roundw
              case rel => exact ⟨k + 1, by omega, by go_num, Hf.out, below_drewN Hbel.out _⟩
              case measure => simp [intOf]; omega
        · clear h0 h1
          go_wp2
          go_quiet ((go_at_call 33; exact Calls.quiet_of_same (touch_any _ _ _ _ _)))
          go_wp2
          go_ret
          exact ⟨⟨_, rfl, fun h => by cases h⟩, below_drewN Hbel.out _⟩
      · have Hf : Hid (Fit F T rf rt n0) := by
          have e : k = n0 := by omega
          rw [e] at Hfit
          exact Hfit
        go_wp2
        go_ret
        exact ⟨⟨_, rfl, fun _ => ⟨by trivial, Hf.out⟩⟩, Hbel.out⟩
  · have t2 : ((n0 : Int) != (n1 : Int)) = true := by simp; omega
    go_enter Trym.func13, Trym.ntmps13
    go_wp2
    go_ret
    exact ⟨⟨_, rfl, fun h => by cases h⟩, Below.refl _ _⟩

end Go.Proofs.Qxb6600215aMods
