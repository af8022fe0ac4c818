/-
  THE WALKS OF zzb1In, zzb1NonEmpty, zzb1Touch, ZZKeyRangeFrom, ZZKeyRangeTo, ZZMakeKeyRange, zzb1Ranges.
-/
import Derived.Test.Qxb6600215aModsBounds
import Derived.Test.Qxb6600215aModsRangePlain
import Derived.Deep.AppendLies
import Derived.Deep.RegionHeld3
namespace Go.Proofs.Qxb6600215aMods
open Go.RowKit

/-! ### Strings in order, in the plain laws' words -/
theorem bl_flip : ∀ x y : List UInt8, (!(Op.bytesLess x y || x == y)) = Op.bytesLess y x
  | [], [] => by simp [Op.bytesLess]
  | _ :: _, [] => by simp [Op.bytesLess]
  | [], _ :: _ => by simp [Op.bytesLess]
  | a :: x, b :: y => by
    have ih := bl_flip x y
    rw [Op.bytesLess, Op.bytesLess]
    by_cases h1 : a < b
    · have h2 : ¬ b < a := UInt8.lt_asymm h1
      have h3 : b ≠ a := fun e => by subst e; exact UInt8.lt_irrefl _ h1
      simp [h1, h2, h3]
    · by_cases h2 : b < a
      · have h3 : a ≠ b := fun e => by subst e; exact UInt8.lt_irrefl _ h2
        simp [h1, h2, h3]
      · have h3 : a = b := UInt8.le_antisymm (UInt8.not_lt.1 h2) (UInt8.not_lt.1 h1)
        subst h3
        rw [← ih]
        simp
/-- 'a > b', as the walk writes it. -/
theorem gt_raw (a b : ByteArray) : (!Op.bytesLess a.toList b.toList && !(a.toList == b.toList)) = sl b a := by
  have := bl_flip a.toList b.toList
  rw [Bool.not_or] at this
  exact this

theorem ret_bool {a b : Bool} (h : a = b) : Ending.returned (.bool a) = .returned (.bool b) := by rw [h]

set_option maxHeartbeats 400000 in
theorem in_any (k f t : ByteArray) (w : World) : Calls Trym.prog 17 #[.string k, .string f, .string t] w fun e w' => e = .returned (.bool (zin k f t)) ∧ w' = w := by
  have hz : ∀ a b c : Bool, Op.bytesLess k.toList f.toList = a → t.toList.isEmpty = b → Op.bytesLess k.toList t.toList = c → zin k f t = (!a && (b || c)) := by rintro a b c rfl rfl rfl; rfl
  rcases Bool.eq_false_or_eq_true (Op.bytesLess k.toList f.toList) with h1 | h1 <;> rcases Bool.eq_false_or_eq_true t.toList.isEmpty with h2 | h2 <;> rcases Bool.eq_false_or_eq_true (Op.bytesLess k.toList t.toList) with h3 | h3
  all_goals
    rw [hz _ _ _ h1 h2 h3]
    clear hz
    go_enter Trym.func17, Trym.ntmps17
    go_wp2
    go_ret
    exact ⟨rfl, rfl⟩

set_option maxHeartbeats 400000 in
theorem nonEmpty_any (f t : ByteArray) (w : World) : Calls Trym.prog 21 #[.string f, .string t] w fun e w' => e = .returned (.bool (zne f t)) ∧ w' = w := by
  have hz : ∀ a b : Bool, t.toList.isEmpty = a → Op.bytesLess f.toList t.toList = b → zne f t = (a || b) := by rintro a b rfl rfl; rfl
  rcases Bool.eq_false_or_eq_true t.toList.isEmpty with h1 | h1 <;> rcases Bool.eq_false_or_eq_true (Op.bytesLess f.toList t.toList) with h2 | h2
  all_goals
    rw [hz _ _ h1 h2]
    clear hz
    go_enter Trym.func21, Trym.ntmps21
    go_wp2
    go_ret
    exact ⟨rfl, rfl⟩

set_option maxHeartbeats 1000000 in
theorem touch_any (af a2 bf bt : ByteArray) (w : World) : Calls Trym.prog 33 #[.string af, .string a2, .string bf, .string bt] w fun e w' => e = .returned (.bool (zto af a2 bf bt)) ∧ w' = w := by
  have hg := gt_raw bf af
  have hz : ∀ a b c d : Bool, sl af bf = a → a2.toList.isEmpty = b → bt.toList.isEmpty = c → Op.bytesLess bt.toList a2.toList = d →
      zto af a2 bf bt = zne (if a = true then bf else af) (if b = true ∨ (c = false ∧ d = true) then bt else a2) := by rintro a b c d rfl rfl rfl rfl; rfl
  rcases Bool.eq_false_or_eq_true (sl af bf) with h1 | h1 <;> rcases Bool.eq_false_or_eq_true a2.toList.isEmpty with h2 | h2 <;> rcases Bool.eq_false_or_eq_true bt.toList.isEmpty with h3 | h3 <;> rcases Bool.eq_false_or_eq_true (Op.bytesLess bt.toList a2.toList) with h4 | h4
  all_goals
    rw [hz _ _ _ _ h1 h2 h3 h4]
    rw [h1] at hg
    clear hz h1
    go_enter Trym.func33, Trym.ntmps33
    go_wp2_with fail
    refine (nonEmpty_any _ _ _).mono ?_
    rintro e w ⟨rfl, rfl⟩
    go_wp2
    go_ret
    exact ⟨rfl, rfl⟩

set_option maxHeartbeats 400000 in
theorem from_any (f t : ByteArray) (w : World) : Calls Trym.prog 18 #[.agg #[.string f, .string t]] w fun e w' => e = .returned (.string f) ∧ Below w.heap.size w w' := by
  go_enter Trym.func18, Trym.ntmps18
  go_wp2
  go_ret
  exact ⟨rfl, (Below.refl _ _).alloc (Nat.le_refl _) _⟩

set_option maxHeartbeats 400000 in
theorem to_any (f t : ByteArray) (w : World) : Calls Trym.prog 19 #[.agg #[.string f, .string t]] w fun e w' => e = .returned (.string t) ∧ Below w.heap.size w w' := by
  go_enter Trym.func19, Trym.ntmps19
  go_wp2
  go_ret
  exact ⟨rfl, (Below.refl _ _).alloc (Nat.le_refl _) _⟩

set_option maxHeartbeats 400000 in
theorem makeRange_any (f t : ByteArray) (w : World) : Calls Trym.prog 15 #[.string f, .string t] w fun e w' => e = .returned (.agg #[.string f, .string t]) ∧ Below w.heap.size w w' := by
  go_enter Trym.func15, Trym.ntmps15
  go_wp2
  refine bodyPost_ret (v := .agg #[.string f, .string t]) (by simp [results, Trym.results15, go_sem]) rfl ⟨rfl, ?_⟩
  exact (Below.refl _ _).alloc (Nat.le_refl _) _

end Go.Proofs.Qxb6600215aMods
