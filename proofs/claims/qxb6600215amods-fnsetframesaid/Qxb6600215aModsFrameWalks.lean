/-
  THE WALKS OF ZZMakeHolder, zzb1Holders, zzb1Holds, mode, ZZMode.
-/
import Derived.Test.Qxb6600215aModsBounds
import Derived.Test.Qxb6600215aModsHolderWalks
namespace Go.Proofs.Qxb6600215aMods
open Go.RowKit
attribute [local go_sem ↓] eq_tx
attribute [local go_sem] guard45

set_option maxHeartbeats 400000 in
theorem makeHolder_any (n : Int) (s : ByteArray) (m : Int) (w : World) :
    Calls Trym.prog 39 #[.agg #[.int .u64 n, .string s], .int .u8 m] w fun e w' => e = .returned (.agg #[.int .u64 n, .string s, .int .u8 m]) ∧ Below w.heap.size w w' := by
  go_enter Trym.func39, Trym.ntmps39
  go_wp2
  refine bodyPost_ret (v := .agg #[.int .u64 n, .string s, .int .u8 m]) (by simp [results, Trym.results39, go_sem]) rfl ⟨rfl, ?_⟩
  exact ((Below.refl _ _).alloc (Nat.le_refl _) _).alloc (by simp) _

/-- The holders of three rows. -/
def mkH (N : Nat → Int) (S : Nat → ByteArray) (M : Nat → Int) (k : Nat) : List Hd := (List.range k).map fun i => ⟨N i, S i, M i⟩
theorem mkH_succ (N : Nat → Int) (S : Nat → ByteArray) (M : Nat → Int) (k : Nat) : mkH N S M (k + 1) = mkH N S M k ++ [⟨N k, S k, M k⟩] := by simp [mkH, List.range_succ]
theorem mkH_length (N : Nat → Int) (S : Nat → ByteArray) (M : Nat → Int) (k : Nat) : (mkH N S M k).length = k := by simp [mkH]

theorem take_three (xs : List Value) (k : Nat) (h : k * 3 + 3 ≤ xs.length) (a b c : Value) : (((xs.set (k * 3) a).set (k * 3 + 1) b).set (k * 3 + 2) c).take ((k + 1) * 3) = xs.take (k * 3) ++ [a, b, c] := by
  apply List.ext_getElem?
  intro j
  by_cases h0 : j < k * 3
  · rw [List.getElem?_take, if_pos (by omega), List.getElem?_set_ne (by omega), List.getElem?_set_ne (by omega), List.getElem?_set_ne (by omega), List.getElem?_append_left (by simp; omega), List.getElem?_take, if_pos h0]
  · rw [List.getElem?_append_right (by simp; omega), List.length_take, Nat.min_eq_left (by omega)]
    rcases (show j = k * 3 ∨ j = k * 3 + 1 ∨ j = k * 3 + 2 ∨ (k + 1) * 3 ≤ j from by omega) with e | e | e | e
    · subst e
      rw [List.getElem?_take, if_pos (by omega), List.getElem?_set_ne (by omega), List.getElem?_set_ne (by omega), List.getElem?_set_self (by omega)]
      simp
    · subst e
      rw [List.getElem?_take, if_pos (by omega), List.getElem?_set_ne (by omega), List.getElem?_set_self (by simp; omega)]
      simp
    · subst e
      rw [List.getElem?_take, if_pos (by omega), List.getElem?_set_self (by simp; omega)]
      simp
    · rw [List.getElem?_take, if_neg (by omega), List.getElem?_eq_none (by simp; omega)]

/-- One holder laid into the row. -/
theorem holders_step (w : World) (B g n k : Nat) (xs : List Value) (N : Nat → Int) (S : Nat → ByteArray) (M : Nat → Int) (hk : k < n)
    (hown : w.ownsRow B 49 3 (.slice (some ⟨g, 0, none⟩) n n) n xs) (ht : xs.take (k * 3) = hcells (mkH N S M k)) :
    ∃ ys, (((w.setCell ⟨g, k * 3, none⟩ (.int .u64 (N k))).setCell ⟨g, k * 3 + 1, none⟩ (.string (S k))).setCell ⟨g, k * 3 + 2, none⟩ (.int .u8 (M k))).ownsRow B 49 3 (.slice (some ⟨g, 0, none⟩) n n) n ys ∧
      ys.take ((k + 1) * 3) = hcells (mkH N S M (k + 1)) := by
  have h1 := (hown.stored (k * 3) (.int .u64 (N k))).1
  have h2 := (h1.stored (k * 3 + 1) (.string (S k))).1
  have h3 := (h2.stored (k * 3 + 2) (.int .u8 (M k))).1
  refine ⟨_, h3, ?_⟩
  have hl := hown.1
  rw [take_three xs k (by omega), ht, mkH_succ, hcells_append]
  rfl

theorem row_some {w : World} {B g n cap : Nat} {xs : List Value} (hown : w.ownsRow B 49 3 (.slice (some ⟨g, 0, none⟩) n cap) n xs) (j : Nat) (hj : j < n * 3) : ∃ u, w.cell? ⟨g, j, none⟩ = some u := by
  have hl := hown.1
  exact ⟨xs[j]'(by omega), by rw [hown.cellAt j hj, List.getElem?_eq_getElem]⟩

theorem ownsRow_below {w w' : World} {B base : Nat} {e : TypeId} {size : Nat} {v : Value} {n : Nat} {xs : List Value} (h : w.ownsRow base e size v n xs) (hb : Below B w w') (hlt : ∀ b, v.ownBlock = some b → b < B) : w'.ownsRow base e size v n xs := by
  refine ⟨h.1, ?_⟩
  rcases h.2 with hn | ⟨g, cap, cur, rfl, hg, hgg, rest⟩
  · exact .inl hn
  · refine .inr ⟨g, cap, cur, rfl, hg, ?_, rest⟩
    rw [hb.block g (hlt g rfl)]
    exact hgg

set_option maxRecDepth 100000 in
set_option maxHeartbeats 1000000 in
theorem holders_main (n c0 c1 c2 b0 o0 b1 o1 b2 o2 : Nat) (N : Nat → Int) (S : Nat → ByteArray) (M : Nat → Int) (w : World) (hn' : n ≤ 65536)
    (l0 : b0 < w.heap.size) (l1 : b1 < w.heap.size) (l2 : b2 < w.heap.size)
    (hc0 : Hid (∀ i, i < n → w.cell? ⟨b0, o0 + i, none⟩ = some (.int .u64 (N i))))
    (hc1 : Hid (∀ i, i < n → w.cell? ⟨b1, o1 + i, none⟩ = some (.string (S i))))
    (hc2 : Hid (∀ i, i < n → w.cell? ⟨b2, o2 + i, none⟩ = some (.int .u8 (M i)))) :
    Calls Trym.prog 27 #[.slice (some ⟨b0, o0, none⟩) n c0, .slice (some ⟨b1, o1, none⟩) n c1, .slice (some ⟨b2, o2, none⟩) n c2] w fun e w' =>
      e = .returned (.slice (some ⟨w.heap.size, 0, none⟩) n n) ∧ w'.ownsRow w.heap.size 49 3 (.slice (some ⟨w.heap.size, 0, none⟩) n n) n (hcells (mkH N S M n)) ∧ Below w.heap.size w w' := by
  obtain ⟨i0, hi0, hz0, hz1, hz2⟩ := info_parts Trym.info49
  go_enter Trym.func27, Trym.ntmps27
  go_wp2_with (first
    | (at_make; refine wpList_make_full _ rfl _ _ 40 rfl w.heap.size 49 i0 _ 3 Trym.underlying40 hi0 hz0 hz1 _ _ _ _ n rfl rfl rfl rfl (by rw [hz2]; omega) (by unfold maxLen; omega) (Nat.le_refl _) ?_; intro w1 hown hgrow))
  have hbel : Below w.heap.size w w1 := (Below.refl _ _).grown hgrow (Nat.le_refl _) (fun k hk => by cases hk)
  go_loopw [8] (fun i wr => ∃ k : Nat, ∃ xs, k ≤ n ∧ i = .int .i64 k ∧ wr.ownsRow w.heap.size 49 3 (.slice (some ⟨w.heap.size, 0, none⟩) n n) n xs ∧ xs.take (k * 3) = hcells (mkH N S M k) ∧ Below w.heap.size w wr) (fun i _ => n - (intOf i).toNat)
  case atStart => exact ⟨0, _, Nat.zero_le _, rfl, hown, rfl, hbel⟩
  case round =>
    clear hown hgrow hbel
    obtain ⟨k, xs, hk, rfl, hown, htake, hbel⟩ := hrel
    by_cases hkn : k < n
    · have d0 : wr.cell? ⟨b0, o0 + k, none⟩ = some (.int .u64 (N k)) := (hbel.cell (p := ⟨b0, o0 + k, none⟩) l0).trans (hc0.out k hkn)
      have d1 : wr.cell? ⟨b1, o1 + k, none⟩ = some (.string (S k)) := (hbel.cell (p := ⟨b1, o1 + k, none⟩) l1).trans (hc1.out k hkn)
      have d2 : wr.cell? ⟨b2, o2 + k, none⟩ = some (.int .u8 (M k)) := (hbel.cell (p := ⟨b2, o2 + k, none⟩) l2).trans (hc2.out k hkn)
      have i1 : (0 : Int) ≤ (k : Int) := by omega
      have i2 : (k : Int) < (n : Int) := by omega
      have n0 : w.heap.size ≠ b0 := by omega
      have n1 : w.heap.size ≠ b1 := by omega
      have n2 : w.heap.size ≠ b2 := by omega
      have hg : w.heap.size < wr.heap.size := (hown.lt w.heap.size rfl).2
      have Hown : Hid (wr.ownsRow w.heap.size 49 3 (.slice (some ⟨w.heap.size, 0, none⟩) n n) n xs) := hown
      have Htake : Hid (xs.take (k * 3) = hcells (mkH N S M k)) := htake
      have Hbel : Hid (Below w.heap.size w wr) := hbel
      clear hown htake hbel
      go_wp2
      go_region_held3 (fun w' => w'.cell? ⟨b0, o0 + k, none⟩ = some (.int .u64 (N k)) ∧ w'.cell? ⟨b1, o1 + k, none⟩ = some (.string (S k)) ∧ w'.cell? ⟨b2, o2 + k, none⟩ = some (.int .u8 (M k)))
        (first
          | go_keep
          | (go_split_ands
             refine ⟨(hb1.cell (by simp; omega)).trans ?_, (hb1.cell (by simp; omega)).trans ?_, (hb1.cell (by simp; omega)).trans ?_⟩ <;> assumption))
        ((go_at_call 39; refine (makeHolder_any _ _ _ _).mono ?_; rintro e w1 ⟨rfl, hb1⟩; have hown1 := ownsRow_below (w := wr.drew) (by exact Hown.out) hb1 (fun b hb => by simp [Value.ownBlock] at hb; simp; omega); obtain ⟨u0, q0⟩ := row_some hown1 (k * 3) (by omega); obtain ⟨u1, q1⟩ := row_some hown1 (k * 3 + 1) (by omega); obtain ⟨u2, q2⟩ := row_some hown1 (k * 3 + 2) (by omega); have f0 := hown1.frozenAt (k * 3); have f1 := hown1.frozenAt (k * 3 + 1); have f2 := hown1.frozenAt (k * 3 + 2)))
      obtain ⟨ys, hown2, htake2⟩ := holders_step w1 w.heap.size w.heap.size n k xs N S M hkn hown1 Htake.out
      have Hown2 : Hid _ := hown2
      have Hb1 : Hid _ := hb1
      clear hown2 hown1 hb1
      go_wp2
      go_roundw
      case rel => exact ⟨k + 1, ys, by omega, by go_num, Hown2.out, htake2, (((Hbel.out.drew.trans (Hb1.out.mono (Nat.le_of_lt hg))).setCell (Nat.le_refl _) _).setCell (Nat.le_refl _) _).setCell (Nat.le_refl _) _⟩
      case measure => simp [intOf]; omega
    · have hxs : xs = hcells (mkH N S M n) := by
        have e : k = n := by omega
        rw [e, List.take_of_length_le (by rw [hown.1]; exact Nat.le_refl _)] at htake
        exact htake
      have Hown : Hid (wr.ownsRow w.heap.size 49 3 (.slice (some ⟨w.heap.size, 0, none⟩) n n) n (hcells (mkH N S M n))) := by rw [← hxs]; exact hown
      have Hbel : Hid (Below w.heap.size w wr) := hbel
      clear hown htake hbel hxs
      go_wp2
      go_ret
      exact ⟨rfl, Hown.out, Hbel.out⟩

set_option maxRecDepth 100000 in
set_option maxHeartbeats 1000000 in
theorem holders_zero (a0 a1 a2 : Option Addr) (c0 c1 c2 : Nat) (N : Nat → Int) (S : Nat → ByteArray) (M : Nat → Int) (w : World) :
    Calls Trym.prog 27 #[.slice a0 0 c0, .slice a1 0 c1, .slice a2 0 c2] w fun e w' =>
      e = .returned (.slice (some ⟨w.heap.size, 0, none⟩) 0 0) ∧ w'.ownsRow w.heap.size 49 3 (.slice (some ⟨w.heap.size, 0, none⟩) 0 0) 0 (hcells (mkH N S M 0)) ∧ Below w.heap.size w w' := by
  obtain ⟨i0, hi0, hz0, hz1, hz2⟩ := info_parts Trym.info49
  go_enter Trym.func27, Trym.ntmps27
  go_wp2_with (first
    | (at_make; refine wpList_make_full _ rfl _ _ 40 rfl w.heap.size 49 i0 _ 3 Trym.underlying40 hi0 hz0 hz1 _ _ _ _ 0 rfl rfl rfl rfl (by omega) (by unfold maxLen; omega) (Nat.le_refl _) ?_; intro w1 hown hgrow))
  have hbel : Below w.heap.size w w1 := (Below.refl _ _).grown hgrow (Nat.le_refl _) (fun k hk => by cases hk)
  have Hown : Hid (w1.ownsRow w.heap.size 49 3 (.slice (some ⟨w.heap.size, 0, none⟩) 0 0) 0 (hcells (mkH N S M 0))) := by
    have e0 := List.length_eq_zero_iff.1 hown.1
    rw [e0] at hown
    exact hown
  clear hown hgrow
  go_loopw [8] (fun i wr => i = .int .i64 0 ∧ wr = w1) (fun _ _ => 0)
  case atStart => exact ⟨rfl, rfl⟩
  case round =>
    obtain ⟨rfl, rfl⟩ := hrel
    go_wp2
    go_ret
    exact ⟨rfl, Hown.out, hbel⟩

theorem holders_any (a0 : Option Addr) (c0 : Nat) (a1 : Option Addr) (c1 : Nat) (a2 : Option Addr) (n c2 : Nat) (N : Nat → Int) (S : Nat → ByteArray) (M : Nat → Int) (w : World) (hn' : n ≤ 65536)
    (h0 : IntRow .u64 w a0 n N) (h1 : StrRow w a1 n S) (h2 : IntRow .u8 w a2 n M) :
    Calls Trym.prog 27 #[.slice a0 n c0, .slice a1 n c1, .slice a2 n c2] w fun e w' =>
      e = .returned (.slice (some ⟨w.heap.size, 0, none⟩) n n) ∧ w'.ownsRow w.heap.size 49 3 (.slice (some ⟨w.heap.size, 0, none⟩) n n) n (hcells (mkH N S M n)) ∧ Below w.heap.size w w' := by
  by_cases hz : n = 0
  · subst hz
    exact holders_zero a0 a1 a2 c0 c1 c2 N S M w
  · rcases h0.2 with e | ⟨b0, o0, rfl, l0, hc0⟩
    · exact absurd e hz
    rcases h1.2 with e | ⟨b1, o1, rfl, l1, hc1⟩
    · exact absurd e hz
    rcases h2.2 with e | ⟨b2, o2, rfl, l2, hc2⟩
    · exact absurd e hz
    exact holders_main n c0 c1 c2 b0 o0 b1 o1 b2 o2 N S M w hn' l0 l1 l2 hc0 (fun i hi => (hc1 i hi).1) hc2

set_option maxRecDepth 100000 in
set_option maxHeartbeats 1000000 in
theorem holds_row (B g cap : Nat) (h : List Hd) (n : Int) (s : ByteArray) (w : World)
    (hown : Hid (w.ownsRow B 49 3 (.slice (some ⟨g, 0, none⟩) h.length cap) h.length (hcells h))) (hlen : h.length ≤ 1000000) :
    Calls Trym.prog 28 #[.slice (some ⟨g, 0, none⟩) h.length cap, .agg #[.int .u64 n, .string s]] w fun e w' => e = .returned (.bool (holdsL h n s)) ∧ Below w.heap.size w w' := by
  have hg : g < w.heap.size := (hown.out.lt g rfl).2
  go_enter Trym.func28, Trym.ntmps28
  go_wp2
  go_loopw [5] (fun c wr => ∃ k : Nat, k ≤ h.length ∧ c = .int .i64 k ∧ Miss h n s k ∧ Below (w.heap.size + 1) (w.alloc (.cells #[.int .u64 n, .string s] 45)) wr) (fun c _ => h.length - (intOf c).toNat)
  case atStart => exact ⟨0, Nat.zero_le _, rfl, fun j hj => by omega, Below.refl _ _⟩
  case round =>
    obtain ⟨k, hk, rfl, hmiss, hbel⟩ := hrel
    have hbw : Below w.heap.size w wr := ((Below.refl _ _).alloc (Nat.le_refl _) _).trans (hbel.mono (by omega))
    have Hbw : Hid (Below w.heap.size w wr) := hbw
    have hsz : w.heap.size < wr.heap.size := by have := hbel.size; simp at this; omega
    by_cases hkl : k < h.length
    · have hget := hcells_get h k hkl
      obtain ⟨N0, S0, M0, hN, hS, hM⟩ : ∃ N0 S0 M0, h[k].n = N0 ∧ h[k].s = S0 ∧ h[k].m = M0 := ⟨_, _, _, rfl, rfl, rfl⟩
      rw [hN, hS, hM] at hget
      have d0 : wr.cell? ⟨g, k * 3, none⟩ = some (.int .u64 N0) := (hbw.cell (p := ⟨g, k * 3, none⟩) hg).trans ((hown.out.cellAt (k * 3) (by omega)).trans hget.1)
      have d1 : wr.cell? ⟨g, k * 3 + 1, none⟩ = some (.string S0) := (hbw.cell (p := ⟨g, k * 3 + 1, none⟩) hg).trans ((hown.out.cellAt (k * 3 + 1) (by omega)).trans hget.2.1)
      have d2 : wr.cell? ⟨g, k * 3 + 2, none⟩ = some (.int .u8 M0) := (hbw.cell (p := ⟨g, k * 3 + 2, none⟩) hg).trans ((hown.out.cellAt (k * 3 + 2) (by omega)).trans hget.2.2)
      have e0 : wr.cell? ⟨w.heap.size, 0, none⟩ = some (.int .u64 n) := (hbel.cell (p := ⟨w.heap.size, 0, none⟩) (by simp)).trans (by simp)
      have e1 : wr.cell? ⟨w.heap.size, 1, none⟩ = some (.string s) := (hbel.cell (p := ⟨w.heap.size, 1, none⟩) (by simp)).trans (by simp)
      have HN : Hid (h[k].n = N0) := hN
      have HS : Hid (h[k].s = S0) := hS
      have Hbel : Hid (Below (w.heap.size + 1) (w.alloc (.cells #[.int .u64 n, .string s] 45)) wr) := hbel
      clear hN hS hM hget hbel hbw
      have hgr : g < wr.heap.size := by omega
      have i1 : (0 : Int) ≤ (k : Int) := by omega
      have i2 : (k : Int) < (h.length : Int) := by omega
      go_wp2
      go_region_held3 (fun w' => w'.cell? ⟨g, k * 3, none⟩ = some (.int .u64 N0) ∧ w'.cell? ⟨g, k * 3 + 1, none⟩ = some (.string S0) ∧ w'.cell? ⟨g, k * 3 + 2, none⟩ = some (.int .u8 M0) ∧ w'.cell? ⟨w.heap.size, 0, none⟩ = some (.int .u64 n) ∧ w'.cell? ⟨w.heap.size, 1, none⟩ = some (.string s))
        (first
          | go_keep
          | (go_split_ands
             refine ⟨(hb1.cell (by simp; omega)).trans ?_, (hb1.cell (by simp; omega)).trans ?_, (hb1.cell (by simp; omega)).trans ?_, (hb1.cell (by simp; omega)).trans ?_, (hb1.cell (by simp; omega)).trans ?_⟩ <;> assumption))
        ((go_at_call 24; refine (holderTx_any _ _ _ _).mono ?_; rintro e w1 ⟨rfl, hb1⟩))
      have hw1 : Below (w.heap.size + 1) (w.alloc (.cells #[.int .u64 n, .string s] 45)) w1 := Hbel.out.drew.trans (hb1.mono (by simp; omega))
      have Hw1 : Hid (Below (w.heap.size + 1) (w.alloc (.cells #[.int .u64 n, .string s] 45)) w1) := hw1
      have Hw2 : Hid (Below w.heap.size w w1) := Hbw.out.drew.trans (hb1.mono (by simp; omega))
      clear hb1 hw1
      go_wp2
      · have hkey : keyB N0 S0 n s = true := by assumption
        go_ret
        exact ⟨congrArg (fun b => Ending.returned (.bool b)) (holdsL_at h n s k hkl (by rw [Hd.key, HN.out, HS.out]; exact keyB_iff.1 hkey)).symm, Hw2.out⟩
      · have hkey : keyB N0 S0 n s = false := by assumption
        go_roundw
        case rel => exact ⟨k + 1, by omega, by go_num, miss_succ hkl hmiss HN.out HS.out hkey, Hw1.out⟩
        case measure => simp [intOf]; omega
    · have hno : holdsL h n s = false := holdsL_none h n s (fun j hj => hmiss j (by omega) hj)
      have Hno : Hid (holdsL h n s = false) := hno
      clear hno hbel hbw
      go_wp2
      go_ret
      exact ⟨congrArg (fun b => Ending.returned (.bool b)) Hno.out.symm, Hbw.out⟩

set_option maxRecDepth 100000 in
set_option maxHeartbeats 1000000 in
theorem mode_row (B g cap : Nat) (h : List Hd) (n : Int) (s : ByteArray) (w : World)
    (hown : Hid (w.ownsRow B 49 3 (.slice (some ⟨g, 0, none⟩) h.length cap) h.length (hcells h))) (hlen : h.length ≤ 1000000) :
    Calls Trym.prog 40 #[.slice (some ⟨g, 0, none⟩) h.length cap, .agg #[.int .u64 n, .string s]] w fun e w' => e = .returned (.int .u8 (modeL h n s)) ∧ Below w.heap.size w w' := by
  have hg : g < w.heap.size := (hown.out.lt g rfl).2
  go_enter Trym.func40, Trym.ntmps40
  go_wp2
  go_loopw [9] (fun c wr => ∃ k : Nat, k ≤ h.length ∧ c = .int .i64 k ∧ Miss h n s k ∧ Below (w.heap.size + 1) (w.alloc (.cells #[.int .u64 n, .string s] 45)) wr) (fun c _ => h.length - (intOf c).toNat)
  case atStart => exact ⟨0, Nat.zero_le _, rfl, fun j hj => by omega, Below.refl _ _⟩
  case round =>
    obtain ⟨k, hk, rfl, hmiss, hbel⟩ := hrel
    have hbw : Below w.heap.size w wr := ((Below.refl _ _).alloc (Nat.le_refl _) _).trans (hbel.mono (by omega))
    have Hbw : Hid (Below w.heap.size w wr) := hbw
    have hsz : w.heap.size < wr.heap.size := by have := hbel.size; simp at this; omega
    by_cases hkl : k < h.length
    · have hget := hcells_get h k hkl
      obtain ⟨N0, S0, M0, hN, hS, hM⟩ : ∃ N0 S0 M0, h[k].n = N0 ∧ h[k].s = S0 ∧ h[k].m = M0 := ⟨_, _, _, rfl, rfl, rfl⟩
      rw [hN, hS, hM] at hget
      have d0 : wr.cell? ⟨g, k * 3, none⟩ = some (.int .u64 N0) := (hbw.cell (p := ⟨g, k * 3, none⟩) hg).trans ((hown.out.cellAt (k * 3) (by omega)).trans hget.1)
      have d1 : wr.cell? ⟨g, k * 3 + 1, none⟩ = some (.string S0) := (hbw.cell (p := ⟨g, k * 3 + 1, none⟩) hg).trans ((hown.out.cellAt (k * 3 + 1) (by omega)).trans hget.2.1)
      have d2 : wr.cell? ⟨g, k * 3 + 2, none⟩ = some (.int .u8 M0) := (hbw.cell (p := ⟨g, k * 3 + 2, none⟩) hg).trans ((hown.out.cellAt (k * 3 + 2) (by omega)).trans hget.2.2)
      have e0 : wr.cell? ⟨w.heap.size, 0, none⟩ = some (.int .u64 n) := (hbel.cell (p := ⟨w.heap.size, 0, none⟩) (by simp)).trans (by simp)
      have e1 : wr.cell? ⟨w.heap.size, 1, none⟩ = some (.string s) := (hbel.cell (p := ⟨w.heap.size, 1, none⟩) (by simp)).trans (by simp)
      have HN : Hid (h[k].n = N0) := hN
      have HS : Hid (h[k].s = S0) := hS
      have HM : Hid (h[k].m = M0) := hM
      have Hbel : Hid (Below (w.heap.size + 1) (w.alloc (.cells #[.int .u64 n, .string s] 45)) wr) := hbel
      clear hN hS hM hget hbel hbw
      have hgr : g < wr.heap.size := by omega
      have i1 : (0 : Int) ≤ (k : Int) := by omega
      have i2 : (k : Int) < (h.length : Int) := by omega
      go_wp2
      · have hkey : keyB N0 S0 n s = true := by assumption
        go_ret
        exact ⟨congrArg (fun b => Ending.returned (.int .u8 b)) (by rw [modeL_at h n s k hkl (fun j hj => hmiss j hj (by omega)) (by rw [Hd.key, HN.out, HS.out]; exact keyB_iff.1 hkey), HM.out]), Hbw.out.alloc (Nat.le_of_lt hsz) _⟩
      · have hkey : keyB N0 S0 n s = false := by assumption
        go_roundw
        case rel => exact ⟨k + 1, by omega, by go_num, miss_succ hkl hmiss HN.out HS.out hkey, Hbel.out.alloc (by omega) _⟩
        case measure => simp [intOf]; omega
    · have hno : modeL h n s = 0 := modeL_none h n s (fun j hj => hmiss j (by omega) hj)
      have Hno : Hid (modeL h n s = 0) := hno
      clear hno hbel hbw
      go_wp2
      go_ret
      exact ⟨congrArg (fun b => Ending.returned (.int .u8 b)) Hno.out.symm, Hbw.out⟩

set_option maxHeartbeats 400000 in
theorem zzmode_row (B g cap : Nat) (h : List Hd) (n : Int) (s : ByteArray) (w : World)
    (hown : w.ownsRow B 49 3 (.slice (some ⟨g, 0, none⟩) h.length cap) h.length (hcells h)) (hlen : h.length ≤ 1000000) :
    Calls Trym.prog 29 #[.slice (some ⟨g, 0, none⟩) h.length cap, .agg #[.int .u64 n, .string s]] w fun e w' => e = .returned (.int .u8 (modeL h n s)) ∧ Below w.heap.size w w' := by
  go_enter Trym.func29, Trym.ntmps29
  go_wp2_with fail
  refine (mode_row B g cap h n s _ (hown.alloc _) hlen).mono ?_
  rintro e w' ⟨rfl, hb⟩
  go_wp2
  go_ret
  exact ⟨rfl, ((Below.refl _ _).alloc (Nat.le_refl _) _).trans (hb.mono (by simp))⟩

end Go.Proofs.Qxb6600215aMods
