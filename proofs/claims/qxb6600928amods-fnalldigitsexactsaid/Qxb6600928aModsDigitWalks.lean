/-
  THE WALKS OF isDigit, allDigits, ZZallDigits, allDigitsModel, zzBytes_FnAllDigitsExact.
-/
import Derived.Test.Qxb6600928aModsRows
import Derived.WalkKit
import Derived.WalkSpells
import Derived.WalkLawsBesides
import Derived.Laws.CopyOwn
namespace Go.Proofs.Qxb6600928aMods
open Go.RowKit

/-- Is the byte a decimal digit? -/
def digB (c : Int) : Bool := decide (48 ≤ c) && decide (c ≤ 57)
/-- Are the first k bytes decimal digits? -/
def allDB (Z : Nat → Int) : Nat → Bool
  | 0 => true
  | k + 1 => allDB Z k && digB (Z k)
/-- How many of the first k bytes are none. -/
def badN (Z : Nat → Int) : Nat → Nat
  | 0 => 0
  | k + 1 => badN Z k + if digB (Z k) = true then 0 else 1

theorem allDB_no (Z : Nat → Int) (k n : Nat) (hk : k < n) (h : digB (Z k) = false) : allDB Z n = false := by
  induction n with
  | zero => omega
  | succ n ih =>
    rw [allDB]
    by_cases e : k = n
    · subst e; simp [h]
    · simp [ih (by omega)]
theorem badN_le (Z : Nat → Int) (k : Nat) : badN Z k ≤ k := by
  induction k with
  | zero => exact Nat.le_refl _
  | succ k ih => unfold badN; split <;> omega
theorem badN_zero (Z : Nat → Int) (k : Nat) : (badN Z k = 0) ↔ allDB Z k = true := by
  induction k with
  | zero => simp [badN, allDB]
  | succ k ih =>
    unfold badN allDB
    cases h : digB (Z k) <;> simp [ih]

/-- A slice of bytes that can be read: empty, or its cells hold the numbers Z. -/
def ByteRow (w : World) (ao : Option Addr) (len : Nat) (Z : Nat → Int) : Prop :=
  len ≤ 9223372036854775807 ∧ (len = 0 ∨ ∃ b off, ao = some ⟨b, off, none⟩ ∧ b < w.heap.size ∧ ∀ i, i < len → w.cell? ⟨b, off + i, none⟩ = some (.int .u8 (Z i)) ∧ 0 ≤ Z i ∧ Z i ≤ 255)

theorem ret_bool {a b : Bool} (h : a = b) : Ending.returned (.bool a) = .returned (.bool b) := by rw [h]

set_option maxHeartbeats 400000 in
theorem isDigit_any (c : Int) (w : World) : Calls Trym.prog 21 #[.int .u8 c] w fun e w' => e = .returned (.bool (digB c)) ∧ w' = w := by
  by_cases h1 : 48 ≤ c
  · by_cases h2 : c ≤ 57
    · go_enter Trym.func21, Trym.ntmps21
      go_wp2
      go_ret
      exact ⟨ret_bool (by simp [digB, h1, h2]), rfl⟩
    · have h2' : 57 < c := by omega
      go_enter Trym.func21, Trym.ntmps21
      go_wp2
      go_ret
      exact ⟨ret_bool (by simp [digB, h2]), rfl⟩
  · have h1' : c < 48 := by omega
    go_enter Trym.func21, Trym.ntmps21
    go_wp2
    go_ret
    exact ⟨ret_bool (by simp [digB]; omega), rfl⟩

set_option maxHeartbeats 400000 in
theorem allDigits_any (ao : Option Addr) (len cap : Nat) (Z : Nat → Int) (w : World) (h : ByteRow w ao len Z) :
    Calls Trym.prog 19 #[.slice ao len cap] w fun e w' => e = .returned (.bool (allDB Z len)) ∧ w' = w := by
  obtain ⟨hm, h⟩ := h
  rcases h with rfl | ⟨b, off, rfl, hb, hc⟩
  · go_enter Trym.func19, Trym.ntmps19
    go_wp2
    go_loop [7] (fun i => i = .int .i64 0) (fun _ => 0)
    case atStart => rfl
    case round =>
      subst hrel
      go_wp2
      go_ret
      exact ⟨rfl, rfl⟩
  · go_enter Trym.func19, Trym.ntmps19
    go_wp2
    go_loop [7] (fun i => ∃ k : Nat, k ≤ len ∧ i = .int .i64 k ∧ Hid (allDB Z k = true)) (fun i => len - (intOf i).toNat)
    case atStart => exact ⟨0, Nat.zero_le _, rfl, rfl⟩
    case round =>
      obtain ⟨k, hk, rfl, hall⟩ := hrel
      by_cases hlt : k < len
      · obtain ⟨hck, _, _⟩ := hc k hlt
        clear hc
        by_cases hd : digB (Z k) = true
        · go_wp2_with fail
          refine (isDigit_any _ _).mono ?_
          rintro e w ⟨rfl, rfl⟩
          have HA : Hid (allDB Z (k + 1) = true) := show allDB Z (k + 1) = true by rw [allDB, hall.out, hd]; rfl
          go_wp2
          go_round
          case rel => exact ⟨k + 1, by omega, by go_num, HA⟩
          case measure => simp [intOf]; omega
        · have hd : digB (Z k) = false := by simpa using hd
          have HA : Hid (allDB Z len = false) := allDB_no Z k len hlt hd
          go_wp2_with fail
          refine (isDigit_any _ _).mono ?_
          rintro e w ⟨rfl, rfl⟩
          go_wp2
          go_ret
          exact ⟨ret_bool HA.out.symm, rfl⟩
      · have e : k = len := by omega
        rw [e] at hall
        clear e
        go_wp2
        go_ret
        exact ⟨ret_bool hall.out.symm, rfl⟩

set_option maxHeartbeats 400000 in
theorem zzallDigits_any (ao : Option Addr) (len cap : Nat) (Z : Nat → Int) (w : World) (h : ByteRow w ao len Z) :
    Calls Trym.prog 12 #[.slice ao len cap] w fun e w' => e = .returned (.bool (allDB Z len)) ∧ w' = w := by
  go_enter Trym.func12, Trym.ntmps12
  go_wp2_with fail
  refine (allDigits_any _ _ _ _ _ h).mono ?_
  rintro e w ⟨rfl, rfl⟩
  go_wp2
  go_ret
  exact ⟨rfl, rfl⟩

set_option maxHeartbeats 400000 in
theorem model_any (ao : Option Addr) (len cap : Nat) (Z : Nat → Int) (w : World) (h : ByteRow w ao len Z) :
    Calls Trym.prog 13 #[.slice ao len cap] w fun e w' => e = .returned (.bool (allDB Z len)) ∧ w' = w := by
  obtain ⟨hm, h⟩ := h
  rcases h with rfl | ⟨b, off, rfl, hb, hc⟩
  · go_enter Trym.func13, Trym.ntmps13
    go_wp2
    go_loop [3, 4] (fun t i => t = .int .i64 0 ∧ i = .int .i64 0) (fun _ _ => 0)
    case atStart => exact ⟨rfl, rfl⟩
    case round =>
      obtain ⟨rfl, rfl⟩ := hrel
      go_wp2
      go_ret
      exact ⟨rfl, rfl⟩
  · go_enter Trym.func13, Trym.ntmps13
    go_wp2
    go_loop [3, 4] (fun t i => ∃ k C : Nat, k ≤ len ∧ i = .int .i64 k ∧ t = .int .i64 C ∧ Hid (C = badN Z k) ∧ C ≤ k) (fun _ i => len - (intOf i).toNat)
    case atStart => exact ⟨0, 0, Nat.zero_le _, rfl, rfl, rfl, Nat.zero_le _⟩
    case round =>
      obtain ⟨k, C, hk, rfl, rfl, hC, hCk⟩ := hrel
      by_cases hlt : k < len
      · obtain ⟨hck, z0, z1⟩ := hc k hlt
        clear hc
        by_cases h1 : 48 ≤ Z k
        · by_cases h2 : Z k ≤ 57
          · have HA : Hid (C = badN Z (k + 1)) := show C = badN Z (k + 1) by rw [badN, ← hC.out]; simp [digB, h1, h2]
            go_wp2
            go_round
            case rel => exact ⟨k + 1, C, by omega, by go_num, rfl, HA, by omega⟩
            case measure => simp [intOf]; omega
          · have HA : Hid (C + 1 = badN Z (k + 1)) := show C + 1 = badN Z (k + 1) by rw [badN, ← hC.out]; simp [digB, h1, h2]
            go_wp2
            go_round
            case rel => exact ⟨k + 1, C + 1, by omega, by go_num, by go_num, HA, by omega⟩
            case measure => simp [intOf]; omega
        · have HA : Hid (C + 1 = badN Z (k + 1)) := show C + 1 = badN Z (k + 1) by rw [badN, ← hC.out]; simp [digB, h1]
          go_wp2
          go_round
          case rel => exact ⟨k + 1, C + 1, by omega, by go_num, by go_num, HA, by omega⟩
          case measure => simp [intOf]; omega
      · have e : k = len := by omega
        rw [e] at hC
        clear e
        have HA : Hid (((C : Int) == 0) = allDB Z len) := by
          show ((C : Int) == 0) = allDB Z len
          rw [Bool.eq_iff_iff, ← badN_zero, ← hC.out]
          simp
        go_wp2
        go_ret
        exact ⟨ret_bool HA.out, rfl⟩

set_option maxHeartbeats 400000 in
theorem bytesDigits_any (ao : Option Addr) (len cap : Nat) (w : World) (hm : len ≤ 9223372036854775807) :
    Calls Trym.prog 11 #[.slice ao len cap] w fun e w' => e = .returned (.bool (decide (len ≤ 1048576))) ∧ w' = w := by
  by_cases h : (1048576 : Int) < (len : Int)
  · go_enter Trym.func11, Trym.ntmps11
    go_wp2
    go_ret
    exact ⟨ret_bool (by simp; omega), rfl⟩
  · go_enter Trym.func11, Trym.ntmps11
    go_wp2
    go_ret
    exact ⟨ret_bool (by simp; omega), rfl⟩

end Go.Proofs.Qxb6600928aMods
