/-
  THE WALK OF zzb1Ranges: a row of key ranges.
-/
import Derived.Test.Qxb6600215aModsRangeWalks
namespace Go.Proofs.Qxb6600215aMods
open Go.RowKit

/-- The cells of a row of key ranges. -/
def rcells (l : List (ByteArray × ByteArray)) : List Value := l.flatMap fun x => [.string x.1, .string x.2]
theorem rcells_append (a b : List (ByteArray × ByteArray)) : rcells (a ++ b) = rcells a ++ rcells b := by simp [rcells]
theorem rcells_get (l : List (ByteArray × ByteArray)) (k : Nat) (hk : k < l.length) : (rcells l)[k * 2]? = some (.string l[k].1) ∧ (rcells l)[k * 2 + 1]? = some (.string l[k].2) := by
  induction l generalizing k with
  | nil => simp at hk
  | cons x t ih =>
    have e : rcells (x :: t) = [.string x.1, .string x.2] ++ rcells t := rfl
    cases k with
    | zero => rw [e]; exact ⟨rfl, rfl⟩
    | succ k =>
      obtain ⟨h1, h2⟩ := ih k (by simpa using hk)
      rw [e]
      refine ⟨?_, ?_⟩
      · rw [List.getElem?_append_right (by simp; omega)]
        simpa [show (k + 1) * 2 - 2 = k * 2 from by omega] using h1
      · rw [List.getElem?_append_right (by simp; omega)]
        simpa [show (k + 1) * 2 + 1 - 2 = k * 2 + 1 from by omega] using h2

/-- The ranges of two rows of strings. -/
def mkR (F T : Nat → ByteArray) (k : Nat) : List (ByteArray × ByteArray) := (List.range k).map fun i => (F i, T i)
theorem mkR_succ (F T : Nat → ByteArray) (k : Nat) : mkR F T (k + 1) = mkR F T k ++ [(F k, T k)] := by simp [mkR, List.range_succ]
theorem mkR_length (F T : Nat → ByteArray) (k : Nat) : (mkR F T k).length = k := by simp [mkR]
theorem mkR_get (F T : Nat → ByteArray) (n k : Nat) (h : k < n) : (rcells (mkR F T n))[k * 2]? = some (.string (F k)) ∧ (rcells (mkR F T n))[k * 2 + 1]? = some (.string (T k)) := by
  have := rcells_get (mkR F T n) k (by rw [mkR_length]; exact h)
  simpa [mkR] using this

theorem take_two (xs : List Value) (k : Nat) (h : k * 2 + 2 ≤ xs.length) (a b : Value) : ((xs.set (k * 2) a).set (k * 2 + 1) b).take ((k + 1) * 2) = xs.take (k * 2) ++ [a, b] := by
  apply List.ext_getElem?
  intro j
  by_cases h0 : j < k * 2
  · rw [List.getElem?_take, if_pos (by omega), List.getElem?_set_ne (by omega), List.getElem?_set_ne (by omega), List.getElem?_append_left (by simp; omega), List.getElem?_take, if_pos h0]
  · rw [List.getElem?_append_right (by simp; omega), List.length_take, Nat.min_eq_left (by omega)]
    rcases (show j = k * 2 ∨ j = k * 2 + 1 ∨ (k + 1) * 2 ≤ j from by omega) with e | e | e
    · subst e
      rw [List.getElem?_take, if_pos (by omega), List.getElem?_set_ne (by omega), List.getElem?_set_self (by omega)]
      simp
    · subst e
      rw [List.getElem?_take, if_pos (by omega), List.getElem?_set_self (by simp; omega)]
      simp
    · rw [List.getElem?_take, if_neg (by omega), List.getElem?_eq_none (by simp; omega)]

/-- One range laid into the row. -/
theorem ranges_step (w : World) (B g n k : Nat) (xs : List Value) (F T : Nat → ByteArray) (hk : k < n)
    (hown : w.ownsRow B 30 2 (.slice (some ⟨g, 0, none⟩) n n) n xs) (ht : xs.take (k * 2) = rcells (mkR F T k)) :
    ∃ ys, ((w.setCell ⟨g, k * 2, none⟩ (.string (F k))).setCell ⟨g, k * 2 + 1, none⟩ (.string (T k))).ownsRow B 30 2 (.slice (some ⟨g, 0, none⟩) n n) n ys ∧
      ys.take ((k + 1) * 2) = rcells (mkR F T (k + 1)) := by
  have h1 := (hown.stored (k * 2) (.string (F k))).1
  have h2 := (h1.stored (k * 2 + 1) (.string (T k))).1
  refine ⟨_, h2, ?_⟩
  have hl := hown.1
  rw [take_two xs k (by omega), ht, mkR_succ, rcells_append]
  rfl

theorem row_some2 {w : World} {B g n cap : Nat} {xs : List Value} (hown : w.ownsRow B 30 2 (.slice (some ⟨g, 0, none⟩) n cap) n xs) (j : Nat) (hj : j < n * 2) : ∃ u, w.cell? ⟨g, j, none⟩ = some u := by
  have hl := hown.1
  exact ⟨xs[j]'(by omega), by rw [hown.cellAt j hj, List.getElem?_eq_getElem]⟩

theorem ownsRow_below {w w' : World} {B base : Nat} {e : TypeId} {size : Nat} {v : Value} {n : Nat} {xs : List Value} (h : w.ownsRow base e size v n xs) (hb : Below B w w') (hlt : ∀ b, v.ownBlock = some b → b < B) : w'.ownsRow base e size v n xs := by
  refine ⟨h.1, ?_⟩
  rcases h.2 with hn | ⟨g, cap, cur, rfl, hg, hgg, rest⟩
  · exact .inl hn
  · refine .inr ⟨g, cap, cur, rfl, hg, ?_, rest⟩
    rw [hb.block g (hlt g rfl)]
    exact hgg

theorem Trym.info30 : (Trym.prog.info? 30).map (fun i => (i.zero, i.size, i.bytes)) = some (some (.agg #[.string ByteArray.empty, .string ByteArray.empty]), 2, 32) := by kernel_rfl

set_option maxRecDepth 100000 in
set_option maxHeartbeats 1000000 in
theorem ranges_main (n c0 c1 b0 o0 b1 o1 : Nat) (F T : Nat → ByteArray) (w : World) (hn' : n ≤ 65536)
    (l0 : b0 < w.heap.size) (l1 : b1 < w.heap.size)
    (hc0 : Hid (∀ i, i < n → w.cell? ⟨b0, o0 + i, none⟩ = some (.string (F i))))
    (hc1 : Hid (∀ i, i < n → w.cell? ⟨b1, o1 + i, none⟩ = some (.string (T i)))) :
    Calls Trym.prog 16 #[.slice (some ⟨b0, o0, none⟩) n c0, .slice (some ⟨b1, o1, none⟩) n c1] w fun e w' =>
      e = .returned (.slice (some ⟨w.heap.size, 0, none⟩) n n) ∧ w'.ownsRow w.heap.size 30 2 (.slice (some ⟨w.heap.size, 0, none⟩) n n) n (rcells (mkR F T n)) ∧ Below w.heap.size w w' := by
  obtain ⟨i0, hi0, hz0, hz1, hz2⟩ := info_parts Trym.info30
  go_enter Trym.func16, Trym.ntmps16
  go_wp2_with (first
    | (at_make; refine wpList_make_full _ rfl _ _ 27 rfl w.heap.size 30 i0 _ 2 Trym.underlying27 hi0 hz0 hz1 _ _ _ _ n rfl rfl rfl rfl (by rw [hz2]; omega) (by unfold maxLen; omega) (Nat.le_refl _) ?_; intro w1 hown hgrow))
  have hbel : Below w.heap.size w w1 := (Below.refl _ _).grown hgrow (Nat.le_refl _) (fun k hk => by cases hk)
  go_loopw [6] (fun i wr => ∃ k : Nat, ∃ xs, k ≤ n ∧ i = .int .i64 k ∧ wr.ownsRow w.heap.size 30 2 (.slice (some ⟨w.heap.size, 0, none⟩) n n) n xs ∧ xs.take (k * 2) = rcells (mkR F T k) ∧ Below w.heap.size w wr) (fun i _ => n - (intOf i).toNat)
  case atStart => exact ⟨0, _, Nat.zero_le _, rfl, hown, rfl, hbel⟩
  case round =>
    clear hown hgrow hbel
    obtain ⟨k, xs, hk, rfl, hown, htake, hbel⟩ := hrel
    by_cases hkn : k < n
    · have d0 : wr.cell? ⟨b0, o0 + k, none⟩ = some (.string (F k)) := (hbel.cell (p := ⟨b0, o0 + k, none⟩) l0).trans (hc0.out k hkn)
      have d1 : wr.cell? ⟨b1, o1 + k, none⟩ = some (.string (T k)) := (hbel.cell (p := ⟨b1, o1 + k, none⟩) l1).trans (hc1.out k hkn)
      have i1 : (0 : Int) ≤ (k : Int) := by omega
      have i2 : (k : Int) < (n : Int) := by omega
      have n0 : w.heap.size ≠ b0 := by omega
      have n1 : w.heap.size ≠ b1 := by omega
      have hg : w.heap.size < wr.heap.size := (hown.lt w.heap.size rfl).2
      have Hown : Hid (wr.ownsRow w.heap.size 30 2 (.slice (some ⟨w.heap.size, 0, none⟩) n n) n xs) := hown
      have Htake : Hid (xs.take (k * 2) = rcells (mkR F T k)) := htake
      have Hbel : Hid (Below w.heap.size w wr) := hbel
      clear hown htake hbel
      go_wp2
      go_region_held3 (fun w' => w'.cell? ⟨b0, o0 + k, none⟩ = some (.string (F k)) ∧ w'.cell? ⟨b1, o1 + k, none⟩ = some (.string (T k)))
        (first
          | go_keep
          | (go_split_ands
             refine ⟨(hb1.cell (by simp; omega)).trans ?_, (hb1.cell (by simp; omega)).trans ?_⟩ <;> assumption))
        ((go_at_call 15; refine (makeRange_any _ _ _).mono ?_; rintro e w1 ⟨rfl, hb1⟩; have hown1 := ownsRow_below (w := wr.drew) (by exact Hown.out) hb1 (fun b hb => by simp [Value.ownBlock] at hb; simp; omega); obtain ⟨u0, q0⟩ := row_some2 hown1 (k * 2) (by omega); obtain ⟨u1, q1⟩ := row_some2 hown1 (k * 2 + 1) (by omega); have f0 := hown1.frozenAt (k * 2); have f1 := hown1.frozenAt (k * 2 + 1)))
      obtain ⟨ys, hown2, htake2⟩ := ranges_step w1 w.heap.size w.heap.size n k xs F T hkn hown1 Htake.out
      have Hown2 : Hid _ := hown2
      have Hb1 : Hid _ := hb1
      clear hown2 hown1 hb1
      go_wp2
      go_roundw
      case rel => exact ⟨k + 1, ys, by omega, by go_num, Hown2.out, htake2, ((Hbel.out.drew.trans (Hb1.out.mono (Nat.le_of_lt hg))).setCell (Nat.le_refl _) _).setCell (Nat.le_refl _) _⟩
      case measure => simp [intOf]; omega
    · have hxs : xs = rcells (mkR F T n) := by
        have e : k = n := by omega
        rw [e, List.take_of_length_le (by rw [hown.1]; exact Nat.le_refl _)] at htake
        exact htake
      have Hown : Hid (wr.ownsRow w.heap.size 30 2 (.slice (some ⟨w.heap.size, 0, none⟩) n n) n (rcells (mkR F T n))) := by rw [← hxs]; exact hown
      have Hbel : Hid (Below w.heap.size w wr) := hbel
      clear hown htake hbel hxs
      go_wp2
      go_ret
      exact ⟨rfl, Hown.out, Hbel.out⟩

set_option maxRecDepth 100000 in
set_option maxHeartbeats 1000000 in
theorem ranges_zero (a0 a1 : Option Addr) (c0 c1 : Nat) (F T : Nat → ByteArray) (w : World) :
    Calls Trym.prog 16 #[.slice a0 0 c0, .slice a1 0 c1] w fun e w' =>
      e = .returned (.slice (some ⟨w.heap.size, 0, none⟩) 0 0) ∧ w'.ownsRow w.heap.size 30 2 (.slice (some ⟨w.heap.size, 0, none⟩) 0 0) 0 (rcells (mkR F T 0)) ∧ Below w.heap.size w w' := by
  obtain ⟨i0, hi0, hz0, hz1, hz2⟩ := info_parts Trym.info30
  go_enter Trym.func16, Trym.ntmps16
  go_wp2_with (first
    | (at_make; refine wpList_make_full _ rfl _ _ 27 rfl w.heap.size 30 i0 _ 2 Trym.underlying27 hi0 hz0 hz1 _ _ _ _ 0 rfl rfl rfl rfl (by omega) (by unfold maxLen; omega) (Nat.le_refl _) ?_; intro w1 hown hgrow))
  have hbel : Below w.heap.size w w1 := (Below.refl _ _).grown hgrow (Nat.le_refl _) (fun k hk => by cases hk)
  have Hown : Hid (w1.ownsRow w.heap.size 30 2 (.slice (some ⟨w.heap.size, 0, none⟩) 0 0) 0 (rcells (mkR F T 0))) := by
    have e0 := List.length_eq_zero_iff.1 hown.1
    rw [e0] at hown
    exact hown
  clear hown hgrow
  go_loopw [6] (fun i wr => i = .int .i64 0 ∧ wr = w1) (fun _ _ => 0)
  case atStart => exact ⟨rfl, rfl⟩
  case round =>
    obtain ⟨rfl, rfl⟩ := hrel
    go_wp2
    go_ret
    exact ⟨rfl, Hown.out, hbel⟩

theorem ranges_any (a0 : Option Addr) (c0 : Nat) (a1 : Option Addr) (n c1 : Nat) (F T : Nat → ByteArray) (w : World) (hn' : n ≤ 65536) (h0 : StrRow w a0 n F) (h1 : StrRow w a1 n T) :
    Calls Trym.prog 16 #[.slice a0 n c0, .slice a1 n c1] w fun e w' =>
      e = .returned (.slice (some ⟨w.heap.size, 0, none⟩) n n) ∧ w'.ownsRow w.heap.size 30 2 (.slice (some ⟨w.heap.size, 0, none⟩) n n) n (rcells (mkR F T n)) ∧ Below w.heap.size w w' := by
  by_cases hz : n = 0
  · subst hz
    exact ranges_zero a0 a1 c0 c1 F T w
  · rcases h0.2 with e | ⟨b0, o0, rfl, l0, hc0⟩
    · exact absurd e hz
    rcases h1.2 with e | ⟨b1, o1, rfl, l1, hc1⟩
    · exact absurd e hz
    exact ranges_main n c0 c1 b0 o0 b1 o1 F T w hn' l0 l1 (fun i hi => (hc0 i hi).1) (fun i hi => (hc1 i hi).1)

end Go.Proofs.Qxb6600215aMods
