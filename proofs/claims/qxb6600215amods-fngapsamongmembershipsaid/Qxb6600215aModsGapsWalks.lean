/-
  THE WALKS OF gapsAmong, ZZGapsAmong.
-/
import Derived.Test.Qxb6600215aModsPartsWalks
namespace Go.Proofs.Qxb6600215aMods
open Go.RowKit

theorem news_one (w : World) (a b : ByteArray) : ∀ j u, [Value.string a, Value.string b][j]? = some u → (w.alloc (.cells #[.string a, .string b] 30)).cell? ((⟨w.heap.size, 0, none⟩ : Addr).add j) = some u :=
  cell_two_new w (.string a) (.string b) 30

/-- An append of one range, behind the element's copy. -/
theorem gaps_app {W wr w1 : World} {B : Nat} {v v' : Value} {acc : List (ByteArray × ByteArray)} {a b : ByteArray} {o o2 : Obj} (hBs : B ≤ wr.heap.size) (hbel : Below B W wr) (hown : wr.ownsRow B 30 2 v acc.length (rcells acc))
    (hown1 : w1.ownsRow B 30 2 v' (acc.length + 1) (rcells acc ++ [.string a, .string b])) (hgrow : ((wr.alloc o).alloc o2).grownBy w1 v.ownBlock) :
    w1.ownsRow B 30 2 v' (acc ++ [(a, b)]).length (rcells (acc ++ [(a, b)])) ∧ Below B W w1 := by
  refine ⟨?_, ((hbel.alloc hBs o).alloc (by simp; omega) o2).grown hgrow (by simp; omega) (fun k hk => (hown.lt k hk).1)⟩
  rw [rcells_append, List.length_append]
  exact hown1

/-- The last append, with no copy ahead of it. -/
theorem gaps_app1 {W wr w1 : World} {B : Nat} {v v' : Value} {acc : List (ByteArray × ByteArray)} {a b : ByteArray} {o : Obj} (hBs : B ≤ wr.heap.size) (hbel : Below B W wr) (hown : wr.ownsRow B 30 2 v acc.length (rcells acc))
    (hown1 : w1.ownsRow B 30 2 v' (acc.length + 1) (rcells acc ++ [.string a, .string b])) (hgrow : (wr.alloc o).grownBy w1 v.ownBlock) :
    w1.ownsRow B 30 2 v' (acc ++ [(a, b)]).length (rcells (acc ++ [(a, b)])) ∧ Below B W w1 := by
  refine ⟨?_, (hbel.alloc hBs o).grown hgrow (by simp; omega) (fun k hk => (hown.lt k hk).1)⟩
  rw [rcells_append, List.length_append]
  exact hown1

/-- The element's copy, behind the append. -/
theorem copy_kept {wr w1 : World} {B : Nat} {v : Value} {n : Nat} {xs : List Value} {a b : ByteArray} {o2 : Obj} (hown : wr.ownsRow B 30 2 v n xs) (hgrow : ((wr.alloc (.cells #[.string a, .string b] 30)).alloc o2).grownBy w1 v.ownBlock) :
    w1.cell? ⟨wr.heap.size, 0, none⟩ = some (.string a) ∧ w1.cell? ⟨wr.heap.size, 1, none⟩ = some (.string b) := by
  have hne : some wr.heap.size ≠ v.ownBlock := fun e => by have := (hown.lt _ e.symm).2; omega
  constructor
  · rw [hgrow.cell_far ⟨wr.heap.size, 0, none⟩ (by simp; omega) hne]
    go_simp
  · rw [hgrow.cell_far ⟨wr.heap.size, 1, none⟩ (by simp; omega) hne]
    go_simp

/-- The state of gapsAmong's loop: k ranges done, the next gap may begin at p, the gaps so far are acc. -/
def GS (F T : Nat → ByteArray) (rf rt : ByteArray) (n k : Nat) (p : ByteArray) (acc : List (ByteArray × ByteArray)) : Prop := acc ++ gapsG F T rt (n - k) k p = gapsG F T rt n 0 rf
theorem GS.len {F T : Nat → ByteArray} {rf rt : ByteArray} {n k : Nat} {p : ByteArray} {acc : List (ByteArray × ByteArray)} (h : GS F T rf rt n k p acc) : acc.length ≤ n + 1 := by
  have h1 := gapsG_len F T rt n 0 rf
  unfold GS at h
  rw [← h, List.length_append] at h1
  omega
theorem GS.open {F T : Nat → ByteArray} {rf rt : ByteArray} {n k : Nat} {p : ByteArray} {acc : List (ByteArray × ByteArray)} (h : GS F T rf rt n k p acc) (hk : k < n) :
    acc ++ ((if sl p (F k) = true then [(p, F k)] else []) ++ (if se (T k) = true then [] else gapsG F T rt (n - (k + 1)) (k + 1) (smax p (T k)))) = gapsG F T rt n 0 rf := by
  unfold GS at h
  rw [show n - k = (n - (k + 1)) + 1 from by omega, gapsG] at h
  exact h
theorem GS.yes {F T : Nat → ByteArray} {rf rt : ByteArray} {n k : Nat} {p : ByteArray} {acc : List (ByteArray × ByteArray)} (h : GS F T rf rt n k p acc) (hk : k < n) (h1 : sl p (F k) = true) (h2 : se (T k) = false) : GS F T rf rt n (k + 1) (smax p (T k)) (acc ++ [(p, F k)]) := by
  have := h.open hk
  rw [if_pos h1, if_neg (by rw [h2]; decide)] at this
  unfold GS
  rw [List.append_assoc]
  exact this
theorem GS.no {F T : Nat → ByteArray} {rf rt : ByteArray} {n k : Nat} {p : ByteArray} {acc : List (ByteArray × ByteArray)} (h : GS F T rf rt n k p acc) (hk : k < n) (h1 : sl p (F k) = false) (h2 : se (T k) = false) : GS F T rf rt n (k + 1) (smax p (T k)) acc := by
  have := h.open hk
  rw [if_neg (by rw [h1]; decide), if_neg (by rw [h2]; decide), List.nil_append] at this
  exact this
theorem GS.yesEnd {F T : Nat → ByteArray} {rf rt : ByteArray} {n k : Nat} {p : ByteArray} {acc : List (ByteArray × ByteArray)} (h : GS F T rf rt n k p acc) (hk : k < n) (h1 : sl p (F k) = true) (h2 : se (T k) = true) : acc ++ [(p, F k)] = gapsG F T rt n 0 rf := by
  have := h.open hk
  rw [if_pos h1, if_pos h2, List.append_nil] at this
  exact this
theorem GS.noEnd {F T : Nat → ByteArray} {rf rt : ByteArray} {n k : Nat} {p : ByteArray} {acc : List (ByteArray × ByteArray)} (h : GS F T rf rt n k p acc) (hk : k < n) (h1 : sl p (F k) = false) (h2 : se (T k) = true) : acc = gapsG F T rt n 0 rf := by
  have := h.open hk
  rw [if_neg (by rw [h1]; decide), if_pos h2, List.append_nil, List.append_nil] at this
  exact this
theorem GS.last {F T : Nat → ByteArray} {rf rt : ByteArray} {n : Nat} {p : ByteArray} {acc : List (ByteArray × ByteArray)} (h : GS F T rf rt n n p acc) : acc ++ (if zne p rt = true then [(p, rt)] else []) = gapsG F T rt n 0 rf := by
  unfold GS at h
  rw [Nat.sub_self, gapsG] at h
  exact h

set_option maxRecDepth 100000 in
set_option maxHeartbeats 1000000 in
theorem gaps_row (B g n cap : Nat) (F T : Nat → ByteArray) (rf rt : ByteArray) (w : World) (hn' : n ≤ 65536)
    (hown : Hid (w.ownsRow B 30 2 (.slice (some ⟨g, 0, none⟩) n cap) n (rcells (mkR F T n)))) :
    Calls Trym.prog 37 #[.agg #[.string rf, .string rt], .slice (some ⟨g, 0, none⟩) n cap] w fun e w' =>
      ∃ v', e = .returned v' ∧ w'.ownsRow (w.heap.size + 1) 30 2 v' (gapsG F T rt n 0 rf).length (rcells (gapsG F T rt n 0 rf)) ∧ Below w.heap.size w w' := by
  have hg : g < w.heap.size := (hown.out.lt g rfl).2
  have hmx := run_smax
  obtain ⟨i0, hi0, hz0, hz1, hz2⟩ := info_parts Trym.info30
  have HBw : Hid (∀ wx : World, Below (w.heap.size + 1) (w.alloc (.cells #[.string rf, .string rt] 30)) wx → Below w.heap.size w wx) := fun wx h => ((Below.refl _ _).alloc (Nat.le_refl _) _).trans (h.mono (by omega))
  go_enter Trym.func37, Trym.ntmps37
  go_wp2
  go_loopw [5, 6, 13] (fun v a c wr => ∃ (k : Nat) (p : ByteArray) (acc : List (ByteArray × ByteArray)), k ≤ n ∧ c = .int .i64 k ∧ a = .string p ∧ GS F T rf rt n k p acc ∧ wr.ownsRow (w.heap.size + 1) 30 2 v acc.length (rcells acc) ∧
      Below (w.heap.size + 1) (w.alloc (.cells #[.string rf, .string rt] 30)) wr) (fun _ _ c _ => n - (intOf c).toNat)
  case atStart => exact ⟨0, rf, [], Nat.zero_le _, rfl, rfl, rfl, World.ownsRow_nil _ _ _ _, Below.refl _ _⟩
  case round =>
    obtain ⟨k, p, acc, hk, rfl, rfl, hgs, hownv, hbel⟩ := hrel
    have Hgs : Hid (GS F T rf rt n k p acc) := hgs
    have Hownv : Hid (wr.ownsRow (w.heap.size + 1) 30 2 u5 acc.length (rcells acc)) := hownv
    have Hbel : Hid (Below (w.heap.size + 1) (w.alloc (.cells #[.string rf, .string rt] 30)) wr) := hbel
    have Hbw : Hid (Below w.heap.size w wr) := HBw.out wr hbel
    have hal := hgs.len
    have hsz : w.heap.size + 1 ≤ wr.heap.size := by have := hbel.size; simp at this; omega
    clear hgs hownv hbel
    by_cases hkn : k < n
    · obtain ⟨g0, g1⟩ := mkR_get F T n k hkn
      have d0 : wr.cell? ⟨g, k * 2, none⟩ = some (.string (F k)) := (Hbw.out.cell (p := ⟨g, k * 2, none⟩) hg).trans ((hown.out.cellAt (k * 2) (by omega)).trans g0)
      have d1 : wr.cell? ⟨g, k * 2 + 1, none⟩ = some (.string (T k)) := (Hbw.out.cell (p := ⟨g, k * 2 + 1, none⟩) hg).trans ((hown.out.cellAt (k * 2 + 1) (by omega)).trans g1)
      have hgr : g < wr.heap.size := World.block_lt_of_cell? wr _ d0
      have i1 : (0 : Int) ≤ (k : Int) := by omega
      have i2 : (k : Int) < (n : Int) := by omega
      clear g0 g1
      have hgt := gt_raw (F k) p
      rcases Bool.eq_false_or_eq_true (sl p (F k)) with h1 | h1
      · have H1 : Hid (sl p (F k) = true) := h1
        rw [h1] at hgt
        clear h1
        rcases Bool.eq_false_or_eq_true (T k).toList.isEmpty with h2 | h2
        · have HE : Hid (acc ++ [(p, F k)] = gapsG F T rt n 0 rf) := Hgs.out.yesEnd hkn H1.out h2
          go_wp2_with (first
            | (at_builtin; refine wpList_append_own _ rfl _ _ 27 rfl (w.heap.size + 1) 30 i0 _ 2 32 Trym.underlying27 hi0 hz0 hz1 hz2 rfl (by omega) _ _ _ rfl (by exact (Hownv.out.alloc _).alloc _) ⟨wr.heap.size + 1, 0, none⟩ 1 1 [.string p, .string (F k)] rfl rfl (news_two wr _ _ _) (by simp [Value.oneCell']) (by unfold maxLen; omega) (by omega) (by simp; omega) ?_; intro v1 w1 hown1 hgrow _; have R := gaps_app hsz Hbel.out Hownv.out hown1 hgrow; obtain ⟨y0, y1⟩ := copy_kept Hownv.out hgrow; have HR : Hid _ := R; clear R hown1 hgrow))
          go_ret
          have R := HR.out
          rw [HE.out] at R
          exact ⟨_, rfl, R.1, HBw.out _ R.2⟩
        · have HE : Hid (GS F T rf rt n (k + 1) (smax p (T k)) (acc ++ [(p, F k)])) := Hgs.out.yes hkn H1.out h2
          go_wp2_with (first
            | (at_builtin; refine wpList_append_own _ rfl _ _ 27 rfl (w.heap.size + 1) 30 i0 _ 2 32 Trym.underlying27 hi0 hz0 hz1 hz2 rfl (by omega) _ _ _ rfl (by exact (Hownv.out.alloc _).alloc _) ⟨wr.heap.size + 1, 0, none⟩ 1 1 [.string p, .string (F k)] rfl rfl (news_two wr _ _ _) (by simp [Value.oneCell']) (by unfold maxLen; omega) (by omega) (by simp; omega) ?_; intro v1 w1 hown1 hgrow _; have R := gaps_app hsz Hbel.out Hownv.out hown1 hgrow; obtain ⟨y0, y1⟩ := copy_kept Hownv.out hgrow; have HR : Hid _ := R; clear R hown1 hgrow))
          go_roundw
          case rel => exact ⟨k + 1, smax p (T k), acc ++ [(p, F k)], by omega, by go_num, rfl, HE.out, HR.out.1, HR.out.2⟩
          case measure => simp [intOf]; omega
      · have H1 : Hid (sl p (F k) = false) := h1
        rw [h1] at hgt
        clear h1
        rcases Bool.eq_false_or_eq_true (T k).toList.isEmpty with h2 | h2
        · have HE : Hid (acc = gapsG F T rt n 0 rf) := Hgs.out.noEnd hkn H1.out h2
          go_wp2
          go_ret
          have R := Hownv.out
          rw [HE.out] at R
          exact ⟨_, rfl, R.alloc _, Hbw.out.alloc (by omega) _⟩
        · have HE : Hid (GS F T rf rt n (k + 1) (smax p (T k)) acc) := Hgs.out.no hkn H1.out h2
          go_wp2
          go_roundw
          case rel => exact ⟨k + 1, smax p (T k), acc, by omega, by go_num, rfl, HE.out, Hownv.out.alloc _, Hbel.out.alloc hsz _⟩
          case measure => simp [intOf]; omega
    · have hke : k = n := by omega
      have HE : Hid (acc ++ (if zne p rt = true then [(p, rt)] else []) = gapsG F T rt n 0 rf) := by
        have h := Hgs.out
        rw [hke] at h
        exact h.last
      have e0 : wr.cell? ⟨w.heap.size, 0, none⟩ = some (.string rf) := (Hbel.out.cell (p := ⟨w.heap.size, 0, none⟩) (by simp)).trans (by simp)
      have e1 : wr.cell? ⟨w.heap.size, 1, none⟩ = some (.string rt) := (Hbel.out.cell (p := ⟨w.heap.size, 1, none⟩) (by simp)).trans (by simp)
      have hwr : w.heap.size < wr.heap.size := by omega
      clear hke
      rcases Bool.eq_false_or_eq_true rt.toList.isEmpty with h2 | h2
      · have hz : zne p rt = true := zne_iff.2 (.inl h2)
        have HE2 : Hid (acc ++ [(p, rt)] = gapsG F T rt n 0 rf) := by
          have h := HE.out
          rw [if_pos hz] at h
          exact h
        clear hz HE
        go_wp2_with (first
          | (at_builtin; refine wpList_append_own _ rfl _ _ 27 rfl (w.heap.size + 1) 30 i0 _ 2 32 Trym.underlying27 hi0 hz0 hz1 hz2 rfl (by omega) _ _ _ rfl (by exact Hownv.out.alloc _) ⟨wr.heap.size, 0, none⟩ 1 1 [.string p, .string rt] rfl rfl (news_one wr _ _) (by simp [Value.oneCell']) (by unfold maxLen; omega) (by omega) (by simp; omega) ?_; intro v1 w1 hown1 hgrow _; have R := gaps_app1 hsz Hbel.out Hownv.out hown1 hgrow; have HR : Hid _ := R; clear R hown1 hgrow))
        go_ret
        have R := HR.out
        rw [HE2.out] at R
        exact ⟨_, rfl, R.1, HBw.out _ R.2⟩
      rcases Bool.eq_false_or_eq_true (Op.bytesLess p.toList rt.toList) with h3 | h3
      · have hz : zne p rt = true := zne_iff.2 (.inr h3)
        have HE2 : Hid (acc ++ [(p, rt)] = gapsG F T rt n 0 rf) := by
          have h := HE.out
          rw [if_pos hz] at h
          exact h
        clear hz HE
        go_wp2_with (first
          | (at_builtin; refine wpList_append_own _ rfl _ _ 27 rfl (w.heap.size + 1) 30 i0 _ 2 32 Trym.underlying27 hi0 hz0 hz1 hz2 rfl (by omega) _ _ _ rfl (by exact Hownv.out.alloc _) ⟨wr.heap.size, 0, none⟩ 1 1 [.string p, .string rt] rfl rfl (news_one wr _ _) (by simp [Value.oneCell']) (by unfold maxLen; omega) (by omega) (by simp; omega) ?_; intro v1 w1 hown1 hgrow _; have R := gaps_app1 hsz Hbel.out Hownv.out hown1 hgrow; have HR : Hid _ := R; clear R hown1 hgrow))
        go_ret
        have R := HR.out
        rw [HE2.out] at R
        exact ⟨_, rfl, R.1, HBw.out _ R.2⟩
      · have HE2 : Hid (acc = gapsG F T rt n 0 rf) := by
          have h := HE.out
          have hz : ¬ zne p rt = true := by
            rw [zne_iff]
            rintro (e | e)
            · have e : rt.toList.isEmpty = true := e
              rw [h2] at e; cases e
            · have e : Op.bytesLess p.toList rt.toList = true := e
              rw [h3] at e; cases e
          rw [if_neg hz, List.append_nil] at h
          exact h
        clear HE
        go_wp2
        go_ret
        have R := Hownv.out
        rw [HE2.out] at R
        exact ⟨_, rfl, R, Hbw.out⟩

set_option maxHeartbeats 400000 in
theorem zzgaps_row (B g n cap : Nat) (F T : Nat → ByteArray) (rf rt : ByteArray) (w : World) (hn' : n ≤ 65536)
    (hown : Hid (w.ownsRow B 30 2 (.slice (some ⟨g, 0, none⟩) n cap) n (rcells (mkR F T n)))) :
    Calls Trym.prog 14 #[.agg #[.string rf, .string rt], .slice (some ⟨g, 0, none⟩) n cap] w fun e w' =>
      ∃ v' B', e = .returned v' ∧ w'.ownsRow B' 30 2 v' (gapsG F T rt n 0 rf).length (rcells (gapsG F T rt n 0 rf)) ∧ Below w.heap.size w w' := by
  go_enter Trym.func14, Trym.ntmps14
  go_wp2_with fail
  refine (gaps_row B g n cap F T rf rt _ hn' (hown.out.alloc _)).mono ?_
  rintro e w' ⟨v', rfl, h1, h2⟩
  have H1 : Hid _ := h1
  have H2 : Hid (Below w.heap.size w w') := ((Below.refl _ _).alloc (Nat.le_refl _) _).trans (h2.mono (by simp))
  clear h1 h2
  go_wp2
  go_ret
  exact ⟨_, _, rfl, H1.out, H2.out⟩

end Go.Proofs.Qxb6600215aMods
