/-
  THE WALK OF FnKindClassSizes: one walk a kind.
-/
import Derived.Test.Qxb6600928aModsKindWalks
namespace Go.Proofs.Qxb6600928aMods
open Go.RowKit

/-- How many of the first k bytes are of kind K. -/
def cnt (K : Nat) : Nat → Nat
  | 0 => 0
  | k + 1 => cnt K k + if kix (k : Int) = K then 1 else 0
theorem cnt_le (K k : Nat) : cnt K k ≤ k := by
  induction k with
  | zero => exact Nat.le_refl _
  | succ k ih => unfold cnt; split <;> omega
theorem cnt_yes {K k : Nat} (h : kix (k : Int) = K) : cnt K (k + 1) = cnt K k + 1 := by rw [cnt, if_pos h]
theorem cnt_no {K k : Nat} (h : kix (k : Int) ≠ K) : cnt K (k + 1) = cnt K k := by rw [cnt, if_neg h]; rfl
theorem kix_le (c : Int) : kix c ≤ 5 := by
  unfold kix
  repeat' split
  all_goals omega
theorem cnt_all : cnt 0 256 = 1 ∧ cnt 1 256 = 1 ∧ cnt 2 256 = 1 ∧ cnt 3 256 = 2 ∧ cnt 4 256 = 1 ∧ cnt 5 256 = 250 := by decide +kernel

set_option maxRecDepth 100000 in
set_option maxHeartbeats 1000000 in
theorem class0 (c : Int) (w : World) (hK : kix c = 0) : Calls Trym.prog 3 #[.int .u8 c] w fun e w' => e = .returned (.bool true) ∧ w' = w := by
  have hz := fun w => zzkind_any c w
  rw [hK] at hz
  clear hK
  go_enter Trym.func3, Trym.ntmps3
  go_wp2_with fail
  refine (hz _).mono ?_
  rintro e w ⟨rfl, rfl⟩
  clear hz
  simp only [kname]
  go_wp2
  go_loop [5, 6] (fun nn i => ∃ k : Nat, k ≤ 256 ∧ i = .int .i64 k ∧ nn = .int .i64 (cnt 0 k : Nat)) (fun _ i => 256 - (intOf i).toNat)
  case atStart => exact ⟨0, by omega, rfl, rfl⟩
  case round =>
    obtain ⟨k, hk, rfl, rfl⟩ := hrel
    have hc := cnt_le 0 k
    obtain ⟨C, hC⟩ : ∃ C, C = cnt 0 k := ⟨_, rfl⟩
    rw [← hC] at hc ⊢
    have HC : Hid (C = cnt 0 k) := hC
    clear hC
    by_cases hlt : k < 256
    · have hle := kix_le k
      have hz := fun w => zzkind_any k w
      rcases (show kix k = 0 ∨ kix k = 1 ∨ kix k = 2 ∨ kix k = 3 ∨ kix k = 4 ∨ kix k = 5 from by omega) with e | e | e | e | e | e
      · rw [e] at hz
        have E : Hid (kix k = 0) := e
        clear e hle
        go_wp2_with fail
        refine (hz _).mono ?_
        rintro e w ⟨rfl, rfl⟩
        clear hz
        simp only [kname]
        go_wp2
        go_round
        case rel => exact ⟨k + 1, by omega, by go_num, by rw [cnt_yes E.out, ← HC.out]; go_num⟩
        case measure => simp [intOf]; omega
      · rw [e] at hz
        have E : Hid (kix k = 1) := e
        clear e hle
        go_wp2_with fail
        refine (hz _).mono ?_
        rintro e w ⟨rfl, rfl⟩
        clear hz
        simp only [kname]
        go_wp2
        go_round
        case rel => exact ⟨k + 1, by omega, by go_num, by rw [cnt_no (by rw [E.out]; decide), ← HC.out]⟩
        case measure => simp [intOf]; omega
      · rw [e] at hz
        have E : Hid (kix k = 2) := e
        clear e hle
        go_wp2_with fail
        refine (hz _).mono ?_
        rintro e w ⟨rfl, rfl⟩
        clear hz
        simp only [kname]
        go_wp2
        go_round
        case rel => exact ⟨k + 1, by omega, by go_num, by rw [cnt_no (by rw [E.out]; decide), ← HC.out]⟩
        case measure => simp [intOf]; omega
      · rw [e] at hz
        have E : Hid (kix k = 3) := e
        clear e hle
        go_wp2_with fail
        refine (hz _).mono ?_
        rintro e w ⟨rfl, rfl⟩
        clear hz
        simp only [kname]
        go_wp2
        go_round
        case rel => exact ⟨k + 1, by omega, by go_num, by rw [cnt_no (by rw [E.out]; decide), ← HC.out]⟩
        case measure => simp [intOf]; omega
      · rw [e] at hz
        have E : Hid (kix k = 4) := e
        clear e hle
        go_wp2_with fail
        refine (hz _).mono ?_
        rintro e w ⟨rfl, rfl⟩
        clear hz
        simp only [kname]
        go_wp2
        go_round
        case rel => exact ⟨k + 1, by omega, by go_num, by rw [cnt_no (by rw [E.out]; decide), ← HC.out]⟩
        case measure => simp [intOf]; omega
      · rw [e] at hz
        have E : Hid (kix k = 5) := e
        clear e hle
        go_wp2_with fail
        refine (hz _).mono ?_
        rintro e w ⟨rfl, rfl⟩
        clear hz
        simp only [kname]
        go_wp2
        go_round
        case rel => exact ⟨k + 1, by omega, by go_num, by rw [cnt_no (by rw [E.out]; decide), ← HC.out]⟩
        case measure => simp [intOf]; omega
    · have hC1 : ((C : Int) == 1) = true := by
        have e : k = 256 := by omega
        have e2 : C = 1 := by rw [HC.out, e]; exact cnt_all.1
        simp [e2]
      go_wp2
      go_ret
      exact ⟨rfl, rfl⟩

set_option maxRecDepth 100000 in
set_option maxHeartbeats 1000000 in
theorem class1 (c : Int) (w : World) (hK : kix c = 1) : Calls Trym.prog 3 #[.int .u8 c] w fun e w' => e = .returned (.bool true) ∧ w' = w := by
  have hz := fun w => zzkind_any c w
  rw [hK] at hz
  clear hK
  go_enter Trym.func3, Trym.ntmps3
  go_wp2_with fail
  refine (hz _).mono ?_
  rintro e w ⟨rfl, rfl⟩
  clear hz
  simp only [kname]
  go_wp2
  go_loop [5, 6] (fun nn i => ∃ k : Nat, k ≤ 256 ∧ i = .int .i64 k ∧ nn = .int .i64 (cnt 1 k : Nat)) (fun _ i => 256 - (intOf i).toNat)
  case atStart => exact ⟨0, by omega, rfl, rfl⟩
  case round =>
    obtain ⟨k, hk, rfl, rfl⟩ := hrel
    have hc := cnt_le 1 k
    obtain ⟨C, hC⟩ : ∃ C, C = cnt 1 k := ⟨_, rfl⟩
    rw [← hC] at hc ⊢
    have HC : Hid (C = cnt 1 k) := hC
    clear hC
    by_cases hlt : k < 256
    · have hle := kix_le k
      have hz := fun w => zzkind_any k w
      rcases (show kix k = 0 ∨ kix k = 1 ∨ kix k = 2 ∨ kix k = 3 ∨ kix k = 4 ∨ kix k = 5 from by omega) with e | e | e | e | e | e
      · rw [e] at hz
        have E : Hid (kix k = 0) := e
        clear e hle
        go_wp2_with fail
        refine (hz _).mono ?_
        rintro e w ⟨rfl, rfl⟩
        clear hz
        simp only [kname]
        go_wp2
        go_round
        case rel => exact ⟨k + 1, by omega, by go_num, by rw [cnt_no (by rw [E.out]; decide), ← HC.out]⟩
        case measure => simp [intOf]; omega
      · rw [e] at hz
        have E : Hid (kix k = 1) := e
        clear e hle
        go_wp2_with fail
        refine (hz _).mono ?_
        rintro e w ⟨rfl, rfl⟩
        clear hz
        simp only [kname]
        go_wp2
        go_round
        case rel => exact ⟨k + 1, by omega, by go_num, by rw [cnt_yes E.out, ← HC.out]; go_num⟩
        case measure => simp [intOf]; omega
      · rw [e] at hz
        have E : Hid (kix k = 2) := e
        clear e hle
        go_wp2_with fail
        refine (hz _).mono ?_
        rintro e w ⟨rfl, rfl⟩
        clear hz
        simp only [kname]
        go_wp2
        go_round
        case rel => exact ⟨k + 1, by omega, by go_num, by rw [cnt_no (by rw [E.out]; decide), ← HC.out]⟩
        case measure => simp [intOf]; omega
      · rw [e] at hz
        have E : Hid (kix k = 3) := e
        clear e hle
        go_wp2_with fail
        refine (hz _).mono ?_
        rintro e w ⟨rfl, rfl⟩
        clear hz
        simp only [kname]
        go_wp2
        go_round
        case rel => exact ⟨k + 1, by omega, by go_num, by rw [cnt_no (by rw [E.out]; decide), ← HC.out]⟩
        case measure => simp [intOf]; omega
      · rw [e] at hz
        have E : Hid (kix k = 4) := e
        clear e hle
        go_wp2_with fail
        refine (hz _).mono ?_
        rintro e w ⟨rfl, rfl⟩
        clear hz
        simp only [kname]
        go_wp2
        go_round
        case rel => exact ⟨k + 1, by omega, by go_num, by rw [cnt_no (by rw [E.out]; decide), ← HC.out]⟩
        case measure => simp [intOf]; omega
      · rw [e] at hz
        have E : Hid (kix k = 5) := e
        clear e hle
        go_wp2_with fail
        refine (hz _).mono ?_
        rintro e w ⟨rfl, rfl⟩
        clear hz
        simp only [kname]
        go_wp2
        go_round
        case rel => exact ⟨k + 1, by omega, by go_num, by rw [cnt_no (by rw [E.out]; decide), ← HC.out]⟩
        case measure => simp [intOf]; omega
    · have hC1 : ((C : Int) == 1) = true := by
        have e : k = 256 := by omega
        have e2 : C = 1 := by rw [HC.out, e]; exact cnt_all.2.1
        simp [e2]
      go_wp2
      go_ret
      exact ⟨rfl, rfl⟩

set_option maxRecDepth 100000 in
set_option maxHeartbeats 1000000 in
theorem class2 (c : Int) (w : World) (hK : kix c = 2) : Calls Trym.prog 3 #[.int .u8 c] w fun e w' => e = .returned (.bool true) ∧ w' = w := by
  have hz := fun w => zzkind_any c w
  rw [hK] at hz
  clear hK
  go_enter Trym.func3, Trym.ntmps3
  go_wp2_with fail
  refine (hz _).mono ?_
  rintro e w ⟨rfl, rfl⟩
  clear hz
  simp only [kname]
  go_wp2
  go_loop [5, 6] (fun nn i => ∃ k : Nat, k ≤ 256 ∧ i = .int .i64 k ∧ nn = .int .i64 (cnt 2 k : Nat)) (fun _ i => 256 - (intOf i).toNat)
  case atStart => exact ⟨0, by omega, rfl, rfl⟩
  case round =>
    obtain ⟨k, hk, rfl, rfl⟩ := hrel
    have hc := cnt_le 2 k
    obtain ⟨C, hC⟩ : ∃ C, C = cnt 2 k := ⟨_, rfl⟩
    rw [← hC] at hc ⊢
    have HC : Hid (C = cnt 2 k) := hC
    clear hC
    by_cases hlt : k < 256
    · have hle := kix_le k
      have hz := fun w => zzkind_any k w
      rcases (show kix k = 0 ∨ kix k = 1 ∨ kix k = 2 ∨ kix k = 3 ∨ kix k = 4 ∨ kix k = 5 from by omega) with e | e | e | e | e | e
      · rw [e] at hz
        have E : Hid (kix k = 0) := e
        clear e hle
        go_wp2_with fail
        refine (hz _).mono ?_
        rintro e w ⟨rfl, rfl⟩
        clear hz
        simp only [kname]
        go_wp2
        go_round
        case rel => exact ⟨k + 1, by omega, by go_num, by rw [cnt_no (by rw [E.out]; decide), ← HC.out]⟩
        case measure => simp [intOf]; omega
      · rw [e] at hz
        have E : Hid (kix k = 1) := e
        clear e hle
        go_wp2_with fail
        refine (hz _).mono ?_
        rintro e w ⟨rfl, rfl⟩
        clear hz
        simp only [kname]
        go_wp2
        go_round
        case rel => exact ⟨k + 1, by omega, by go_num, by rw [cnt_no (by rw [E.out]; decide), ← HC.out]⟩
        case measure => simp [intOf]; omega
      · rw [e] at hz
        have E : Hid (kix k = 2) := e
        clear e hle
        go_wp2_with fail
        refine (hz _).mono ?_
        rintro e w ⟨rfl, rfl⟩
        clear hz
        simp only [kname]
        go_wp2
        go_round
        case rel => exact ⟨k + 1, by omega, by go_num, by rw [cnt_yes E.out, ← HC.out]; go_num⟩
        case measure => simp [intOf]; omega
      · rw [e] at hz
        have E : Hid (kix k = 3) := e
        clear e hle
        go_wp2_with fail
        refine (hz _).mono ?_
        rintro e w ⟨rfl, rfl⟩
        clear hz
        simp only [kname]
        go_wp2
        go_round
        case rel => exact ⟨k + 1, by omega, by go_num, by rw [cnt_no (by rw [E.out]; decide), ← HC.out]⟩
        case measure => simp [intOf]; omega
      · rw [e] at hz
        have E : Hid (kix k = 4) := e
        clear e hle
        go_wp2_with fail
        refine (hz _).mono ?_
        rintro e w ⟨rfl, rfl⟩
        clear hz
        simp only [kname]
        go_wp2
        go_round
        case rel => exact ⟨k + 1, by omega, by go_num, by rw [cnt_no (by rw [E.out]; decide), ← HC.out]⟩
        case measure => simp [intOf]; omega
      · rw [e] at hz
        have E : Hid (kix k = 5) := e
        clear e hle
        go_wp2_with fail
        refine (hz _).mono ?_
        rintro e w ⟨rfl, rfl⟩
        clear hz
        simp only [kname]
        go_wp2
        go_round
        case rel => exact ⟨k + 1, by omega, by go_num, by rw [cnt_no (by rw [E.out]; decide), ← HC.out]⟩
        case measure => simp [intOf]; omega
    · have hC1 : ((C : Int) == 1) = true := by
        have e : k = 256 := by omega
        have e2 : C = 1 := by rw [HC.out, e]; exact cnt_all.2.2.1
        simp [e2]
      go_wp2
      go_ret
      exact ⟨rfl, rfl⟩

set_option maxRecDepth 100000 in
set_option maxHeartbeats 1000000 in
theorem class3 (c : Int) (w : World) (hK : kix c = 3) : Calls Trym.prog 3 #[.int .u8 c] w fun e w' => e = .returned (.bool true) ∧ w' = w := by
  have hz := fun w => zzkind_any c w
  rw [hK] at hz
  clear hK
  go_enter Trym.func3, Trym.ntmps3
  go_wp2_with fail
  refine (hz _).mono ?_
  rintro e w ⟨rfl, rfl⟩
  clear hz
  simp only [kname]
  go_wp2
  go_loop [5, 6] (fun nn i => ∃ k : Nat, k ≤ 256 ∧ i = .int .i64 k ∧ nn = .int .i64 (cnt 3 k : Nat)) (fun _ i => 256 - (intOf i).toNat)
  case atStart => exact ⟨0, by omega, rfl, rfl⟩
  case round =>
    obtain ⟨k, hk, rfl, rfl⟩ := hrel
    have hc := cnt_le 3 k
    obtain ⟨C, hC⟩ : ∃ C, C = cnt 3 k := ⟨_, rfl⟩
    rw [← hC] at hc ⊢
    have HC : Hid (C = cnt 3 k) := hC
    clear hC
    by_cases hlt : k < 256
    · have hle := kix_le k
      have hz := fun w => zzkind_any k w
      rcases (show kix k = 0 ∨ kix k = 1 ∨ kix k = 2 ∨ kix k = 3 ∨ kix k = 4 ∨ kix k = 5 from by omega) with e | e | e | e | e | e
      · rw [e] at hz
        have E : Hid (kix k = 0) := e
        clear e hle
        go_wp2_with fail
        refine (hz _).mono ?_
        rintro e w ⟨rfl, rfl⟩
        clear hz
        simp only [kname]
        go_wp2
        go_round
        case rel => exact ⟨k + 1, by omega, by go_num, by rw [cnt_no (by rw [E.out]; decide), ← HC.out]⟩
        case measure => simp [intOf]; omega
      · rw [e] at hz
        have E : Hid (kix k = 1) := e
        clear e hle
        go_wp2_with fail
        refine (hz _).mono ?_
        rintro e w ⟨rfl, rfl⟩
        clear hz
        simp only [kname]
        go_wp2
        go_round
        case rel => exact ⟨k + 1, by omega, by go_num, by rw [cnt_no (by rw [E.out]; decide), ← HC.out]⟩
        case measure => simp [intOf]; omega
      · rw [e] at hz
        have E : Hid (kix k = 2) := e
        clear e hle
        go_wp2_with fail
        refine (hz _).mono ?_
        rintro e w ⟨rfl, rfl⟩
        clear hz
        simp only [kname]
        go_wp2
        go_round
        case rel => exact ⟨k + 1, by omega, by go_num, by rw [cnt_no (by rw [E.out]; decide), ← HC.out]⟩
        case measure => simp [intOf]; omega
      · rw [e] at hz
        have E : Hid (kix k = 3) := e
        clear e hle
        go_wp2_with fail
        refine (hz _).mono ?_
        rintro e w ⟨rfl, rfl⟩
        clear hz
        simp only [kname]
        go_wp2
        go_round
        case rel => exact ⟨k + 1, by omega, by go_num, by rw [cnt_yes E.out, ← HC.out]; go_num⟩
        case measure => simp [intOf]; omega
      · rw [e] at hz
        have E : Hid (kix k = 4) := e
        clear e hle
        go_wp2_with fail
        refine (hz _).mono ?_
        rintro e w ⟨rfl, rfl⟩
        clear hz
        simp only [kname]
        go_wp2
        go_round
        case rel => exact ⟨k + 1, by omega, by go_num, by rw [cnt_no (by rw [E.out]; decide), ← HC.out]⟩
        case measure => simp [intOf]; omega
      · rw [e] at hz
        have E : Hid (kix k = 5) := e
        clear e hle
        go_wp2_with fail
        refine (hz _).mono ?_
        rintro e w ⟨rfl, rfl⟩
        clear hz
        simp only [kname]
        go_wp2
        go_round
        case rel => exact ⟨k + 1, by omega, by go_num, by rw [cnt_no (by rw [E.out]; decide), ← HC.out]⟩
        case measure => simp [intOf]; omega
    · have hC1 : ((C : Int) == 2) = true := by
        have e : k = 256 := by omega
        have e2 : C = 2 := by rw [HC.out, e]; exact cnt_all.2.2.2.1
        simp [e2]
      go_wp2
      go_ret
      exact ⟨rfl, rfl⟩

set_option maxRecDepth 100000 in
set_option maxHeartbeats 1000000 in
theorem class4 (c : Int) (w : World) (hK : kix c = 4) : Calls Trym.prog 3 #[.int .u8 c] w fun e w' => e = .returned (.bool true) ∧ w' = w := by
  have hz := fun w => zzkind_any c w
  rw [hK] at hz
  clear hK
  go_enter Trym.func3, Trym.ntmps3
  go_wp2_with fail
  refine (hz _).mono ?_
  rintro e w ⟨rfl, rfl⟩
  clear hz
  simp only [kname]
  go_wp2
  go_loop [5, 6] (fun nn i => ∃ k : Nat, k ≤ 256 ∧ i = .int .i64 k ∧ nn = .int .i64 (cnt 4 k : Nat)) (fun _ i => 256 - (intOf i).toNat)
  case atStart => exact ⟨0, by omega, rfl, rfl⟩
  case round =>
    obtain ⟨k, hk, rfl, rfl⟩ := hrel
    have hc := cnt_le 4 k
    obtain ⟨C, hC⟩ : ∃ C, C = cnt 4 k := ⟨_, rfl⟩
    rw [← hC] at hc ⊢
    have HC : Hid (C = cnt 4 k) := hC
    clear hC
    by_cases hlt : k < 256
    · have hle := kix_le k
      have hz := fun w => zzkind_any k w
      rcases (show kix k = 0 ∨ kix k = 1 ∨ kix k = 2 ∨ kix k = 3 ∨ kix k = 4 ∨ kix k = 5 from by omega) with e | e | e | e | e | e
      · rw [e] at hz
        have E : Hid (kix k = 0) := e
        clear e hle
        go_wp2_with fail
        refine (hz _).mono ?_
        rintro e w ⟨rfl, rfl⟩
        clear hz
        simp only [kname]
        go_wp2
        go_round
        case rel => exact ⟨k + 1, by omega, by go_num, by rw [cnt_no (by rw [E.out]; decide), ← HC.out]⟩
        case measure => simp [intOf]; omega
      · rw [e] at hz
        have E : Hid (kix k = 1) := e
        clear e hle
        go_wp2_with fail
        refine (hz _).mono ?_
        rintro e w ⟨rfl, rfl⟩
        clear hz
        simp only [kname]
        go_wp2
        go_round
        case rel => exact ⟨k + 1, by omega, by go_num, by rw [cnt_no (by rw [E.out]; decide), ← HC.out]⟩
        case measure => simp [intOf]; omega
      · rw [e] at hz
        have E : Hid (kix k = 2) := e
        clear e hle
        go_wp2_with fail
        refine (hz _).mono ?_
        rintro e w ⟨rfl, rfl⟩
        clear hz
        simp only [kname]
        go_wp2
        go_round
        case rel => exact ⟨k + 1, by omega, by go_num, by rw [cnt_no (by rw [E.out]; decide), ← HC.out]⟩
        case measure => simp [intOf]; omega
      · rw [e] at hz
        have E : Hid (kix k = 3) := e
        clear e hle
        go_wp2_with fail
        refine (hz _).mono ?_
        rintro e w ⟨rfl, rfl⟩
        clear hz
        simp only [kname]
        go_wp2
        go_round
        case rel => exact ⟨k + 1, by omega, by go_num, by rw [cnt_no (by rw [E.out]; decide), ← HC.out]⟩
        case measure => simp [intOf]; omega
      · rw [e] at hz
        have E : Hid (kix k = 4) := e
        clear e hle
        go_wp2_with fail
        refine (hz _).mono ?_
        rintro e w ⟨rfl, rfl⟩
        clear hz
        simp only [kname]
        go_wp2
        go_round
        case rel => exact ⟨k + 1, by omega, by go_num, by rw [cnt_yes E.out, ← HC.out]; go_num⟩
        case measure => simp [intOf]; omega
      · rw [e] at hz
        have E : Hid (kix k = 5) := e
        clear e hle
        go_wp2_with fail
        refine (hz _).mono ?_
        rintro e w ⟨rfl, rfl⟩
        clear hz
        simp only [kname]
        go_wp2
        go_round
        case rel => exact ⟨k + 1, by omega, by go_num, by rw [cnt_no (by rw [E.out]; decide), ← HC.out]⟩
        case measure => simp [intOf]; omega
    · have hC1 : ((C : Int) == 1) = true := by
        have e : k = 256 := by omega
        have e2 : C = 1 := by rw [HC.out, e]; exact cnt_all.2.2.2.2.1
        simp [e2]
      go_wp2
      go_ret
      exact ⟨rfl, rfl⟩

set_option maxRecDepth 100000 in
set_option maxHeartbeats 1000000 in
theorem class5 (c : Int) (w : World) (hK : kix c = 5) : Calls Trym.prog 3 #[.int .u8 c] w fun e w' => e = .returned (.bool true) ∧ w' = w := by
  have hz := fun w => zzkind_any c w
  rw [hK] at hz
  clear hK
  go_enter Trym.func3, Trym.ntmps3
  go_wp2_with fail
  refine (hz _).mono ?_
  rintro e w ⟨rfl, rfl⟩
  clear hz
  simp only [kname]
  go_wp2
  go_loop [5, 6] (fun nn i => ∃ k : Nat, k ≤ 256 ∧ i = .int .i64 k ∧ nn = .int .i64 (cnt 5 k : Nat)) (fun _ i => 256 - (intOf i).toNat)
  case atStart => exact ⟨0, by omega, rfl, rfl⟩
  case round =>
    obtain ⟨k, hk, rfl, rfl⟩ := hrel
    have hc := cnt_le 5 k
    obtain ⟨C, hC⟩ : ∃ C, C = cnt 5 k := ⟨_, rfl⟩
    rw [← hC] at hc ⊢
    have HC : Hid (C = cnt 5 k) := hC
    clear hC
    by_cases hlt : k < 256
    · have hle := kix_le k
      have hz := fun w => zzkind_any k w
      rcases (show kix k = 0 ∨ kix k = 1 ∨ kix k = 2 ∨ kix k = 3 ∨ kix k = 4 ∨ kix k = 5 from by omega) with e | e | e | e | e | e
      · rw [e] at hz
        have E : Hid (kix k = 0) := e
        clear e hle
        go_wp2_with fail
        refine (hz _).mono ?_
        rintro e w ⟨rfl, rfl⟩
        clear hz
        simp only [kname]
        go_wp2
        go_round
        case rel => exact ⟨k + 1, by omega, by go_num, by rw [cnt_no (by rw [E.out]; decide), ← HC.out]⟩
        case measure => simp [intOf]; omega
      · rw [e] at hz
        have E : Hid (kix k = 1) := e
        clear e hle
        go_wp2_with fail
        refine (hz _).mono ?_
        rintro e w ⟨rfl, rfl⟩
        clear hz
        simp only [kname]
        go_wp2
        go_round
        case rel => exact ⟨k + 1, by omega, by go_num, by rw [cnt_no (by rw [E.out]; decide), ← HC.out]⟩
        case measure => simp [intOf]; omega
      · rw [e] at hz
        have E : Hid (kix k = 2) := e
        clear e hle
        go_wp2_with fail
        refine (hz _).mono ?_
        rintro e w ⟨rfl, rfl⟩
        clear hz
        simp only [kname]
        go_wp2
        go_round
        case rel => exact ⟨k + 1, by omega, by go_num, by rw [cnt_no (by rw [E.out]; decide), ← HC.out]⟩
        case measure => simp [intOf]; omega
      · rw [e] at hz
        have E : Hid (kix k = 3) := e
        clear e hle
        go_wp2_with fail
        refine (hz _).mono ?_
        rintro e w ⟨rfl, rfl⟩
        clear hz
        simp only [kname]
        go_wp2
        go_round
        case rel => exact ⟨k + 1, by omega, by go_num, by rw [cnt_no (by rw [E.out]; decide), ← HC.out]⟩
        case measure => simp [intOf]; omega
      · rw [e] at hz
        have E : Hid (kix k = 4) := e
        clear e hle
        go_wp2_with fail
        refine (hz _).mono ?_
        rintro e w ⟨rfl, rfl⟩
        clear hz
        simp only [kname]
        go_wp2
        go_round
        case rel => exact ⟨k + 1, by omega, by go_num, by rw [cnt_no (by rw [E.out]; decide), ← HC.out]⟩
        case measure => simp [intOf]; omega
      · rw [e] at hz
        have E : Hid (kix k = 5) := e
        clear e hle
        go_wp2_with fail
        refine (hz _).mono ?_
        rintro e w ⟨rfl, rfl⟩
        clear hz
        simp only [kname]
        go_wp2
        go_round
        case rel => exact ⟨k + 1, by omega, by go_num, by rw [cnt_yes E.out, ← HC.out]; go_num⟩
        case measure => simp [intOf]; omega
    · have hC1 : ((C : Int) == 250) = true := by
        have e : k = 256 := by omega
        have e2 : C = 250 := by rw [HC.out, e]; exact cnt_all.2.2.2.2.2
        simp [e2]
      go_wp2
      go_ret
      exact ⟨rfl, rfl⟩

theorem class_any (c : Int) (w : World) : Calls Trym.prog 3 #[.int .u8 c] w fun e w' => e = .returned (.bool true) ∧ w' = w := by
  have hle := kix_le c
  rcases (show kix c = 0 ∨ kix c = 1 ∨ kix c = 2 ∨ kix c = 3 ∨ kix c = 4 ∨ kix c = 5 from by omega) with e | e | e | e | e | e
  · exact class0 c w e
  · exact class1 c w e
  · exact class2 c w e
  · exact class3 c w e
  · exact class4 c w e
  · exact class5 c w e

end Go.Proofs.Qxb6600928aMods
