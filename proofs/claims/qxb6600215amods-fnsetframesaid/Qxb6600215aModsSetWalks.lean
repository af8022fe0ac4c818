/-
  THE WALKS OF set, ZZSet, ZZHolderTx, ZZHolderMode.
-/
import Derived.Test.Qxb6600215aModsRows
import Derived.Test.Qxb6600215aModsSetPlain
import Derived.WalkKit
import Derived.WalkSpells
import Derived.WalkLawsBesides
import Derived.Deep.QuietTactic
import Derived.BigQuiet
import Derived.Deep.AppendLies
import Derived.Deep.RegionHeld3
import Derived.Deep.RegionLaw
namespace Go.Proofs.Qxb6600215aMods
open Go.RowKit

/-- The cells of a row of holders. -/
def hcells (h : List Hd) : List Value := h.flatMap fun x => [.int .u64 x.n, .string x.s, .int .u8 x.m]

theorem hcells_length (h : List Hd) : (hcells h).length = h.length * 3 := by
  induction h with
  | nil => rfl
  | cons x t ih =>
    have : hcells (x :: t) = [.int .u64 x.n, .string x.s, .int .u8 x.m] ++ hcells t := rfl
    rw [this, List.length_append, ih]
    simp
    omega

theorem hcells_get (h : List Hd) (k : Nat) (hk : k < h.length) :
    (hcells h)[k * 3]? = some (.int .u64 h[k].n) ∧ (hcells h)[k * 3 + 1]? = some (.string h[k].s) ∧ (hcells h)[k * 3 + 2]? = some (.int .u8 h[k].m) := by
  induction h generalizing k with
  | nil => simp at hk
  | cons x t ih =>
    have e : hcells (x :: t) = [.int .u64 x.n, .string x.s, .int .u8 x.m] ++ hcells t := rfl
    cases k with
    | zero => rw [e]; exact ⟨rfl, rfl, rfl⟩
    | succ k =>
      obtain ⟨h1, h2, h3⟩ := ih k (by simpa using hk)
      rw [e]
      refine ⟨?_, ?_, ?_⟩
      · rw [List.getElem?_append_right (by simp; omega)]
        simpa [show (k + 1) * 3 - 3 = k * 3 from by omega] using h1
      · rw [List.getElem?_append_right (by simp; omega)]
        simpa [show (k + 1) * 3 + 1 - 3 = k * 3 + 1 from by omega] using h2
      · rw [List.getElem?_append_right (by simp; omega)]
        simpa [show (k + 1) * 3 + 2 - 3 = k * 3 + 2 from by omega] using h3

theorem hcells_append (h k : List Hd) : hcells (h ++ k) = hcells h ++ hcells k := by simp [hcells]

theorem hcells_set (h : List Hd) (k : Nat) (hk : k < h.length) (m : Int) : (hcells h).set (k * 3 + 2) (.int .u8 m) = hcells (h.set k ⟨h[k].n, h[k].s, m⟩) := by
  induction h generalizing k with
  | nil => simp at hk
  | cons x t ih =>
    have e : ∀ x t, hcells (x :: t) = [.int .u64 x.n, .string x.s, .int .u8 x.m] ++ hcells t := fun _ _ => rfl
    cases k with
    | zero => rfl
    | succ k =>
      have := ih k (by simpa using hk)
      rw [e, List.set_cons_succ, e, List.getElem_cons_succ, ← this, show (k + 1) * 3 + 2 = (k * 3 + 2) + 1 + 1 + 1 from by omega]
      rfl

/-- None of the first k holders fits. -/
def Miss (h : List Hd) (n : Int) (s : ByteArray) (k : Nat) : Prop := ∀ j, j < k → (hj : j < h.length) → h[j].key ≠ (n, s.toList)

/-- 'a == b' of two transactions. -/
def keyB (n : Int) (s : ByteArray) (n' : Int) (s' : ByteArray) : Bool := n == n' && s.toList == s'.toList
theorem keyB_iff {n : Int} {s : ByteArray} {n' : Int} {s' : ByteArray} : keyB n s n' s' = true ↔ (n, s.toList) = (n', s'.toList) := by simp [keyB]

theorem stood45 : Trym.prog.stoodInHeld 45 = false := by kernel_rfl
theorem guard45 : Trym.prog.eqGuardType Trym.prog.depth 45 = false := by kernel_rfl
theorem fields45 : Trym.prog.underlying 45 = some (.struct (Trym.prog.fieldsOf 45)) := by kernel_rfl

theorem eq_tx (n : Int) (s : ByteArray) (n' : Int) (s' : ByteArray) (w : World) :
    (Op.equalIn 10000 45 (.agg #[.int .u64 n, .string s]) (.agg #[.int .u64 n', .string s'])).run Trym.prog w = .ok (keyB n s n' s') w := by
  rw [run_equalIn_agg w 9999 45 _ _ fields45 stood45]
  simp [go_sem, Trym.underlying45]
  by_cases h1 : n = n'
  · by_cases h2 : s.toList = s'.toList
    · simp [keyB, h1, h2]
    · simp [keyB, h1, h2]
  · simp [keyB, h1]
attribute [local go_sem ↓] eq_tx
attribute [local go_sem] guard45

theorem Trym.info49 : (Trym.prog.info? 49).map (fun i => (i.zero, i.size, i.bytes)) = some (some (.agg #[.int .u64 0, .string ByteArray.empty, .int .u8 0]), 3, 32) := by kernel_rfl

/-- Every block that was there, but for block hb and v's own row, is as it was. -/
def Others (hb : Nat) (v : Value) (w w' : World) : Prop := ∀ k, k < w.heap.size → k ≠ hb → v.ownBlock ≠ some k → w'.heap[k]? = w.heap[k]?

theorem miss_succ {h : List Hd} {n : Int} {s : ByteArray} {k : Nat} (hk : k < h.length) (hm : Miss h n s k) {N0 : Int} {S0 : ByteArray} (hN : h[k].n = N0) (hS : h[k].s = S0) (hkey : keyB N0 S0 n s = false) : Miss h n s (k + 1) := by
  intro j hj hjl
  by_cases e : j = k
  · subst e
    intro e
    have : keyB N0 S0 n s = true := keyB_iff.2 (by rw [← hN, ← hS]; exact e)
    rw [hkey] at this
    cases this
  · exact hm j (by omega) hjl

theorem set_ne {w : World} {B hb g cap : Nat} {h : List Hd} (hvar : w.heap[hb]? = some (.cells #[.slice (some ⟨g, 0, none⟩) h.length cap] 40 (0, 0)))
    (hown : w.ownsRow B 49 3 (.slice (some ⟨g, 0, none⟩) h.length cap) h.length (hcells h)) : g ≠ hb := by
  rintro rfl
  rcases hown.2 with ⟨h', _⟩ | ⟨g', cap', cur, h', _, hg, _⟩
  · simp at h'
  · simp only [Value.slice.injEq, Option.some.injEq, Addr.mk.injEq, and_true, true_and] at h'
    obtain ⟨rfl, rfl⟩ := h'
    rw [hvar] at hg
    simp at hg

theorem set_hit (w : World) (B hb g cap : Nat) (h : List Hd) (n : Int) (s : ByteArray) (m : Int) (k nq : Nat) (o : Obj)
    (hB : B ≤ hb) (hvar : w.heap[hb]? = some (.cells #[.slice (some ⟨g, 0, none⟩) h.length cap] 40 (0, 0)))
    (hown : w.ownsRow B 49 3 (.slice (some ⟨g, 0, none⟩) h.length cap) h.length (hcells h)) (hk : k < h.length) (hm : Miss h n s k) {N0 : Int} {S0 : ByteArray} (hN : h[k].n = N0) (hS : h[k].s = S0) (hkey : keyB N0 S0 n s = true) :
    ∃ v', (((w.alloc o).drewN nq).setCell ⟨g, k * 3 + 2, none⟩ (.int .u8 m)).heap[hb]? = some (.cells #[v'] 40 (0, 0)) ∧
      (((w.alloc o).drewN nq).setCell ⟨g, k * 3 + 2, none⟩ (.int .u8 m)).ownsRow B 49 3 v' (setL h n s m).length (hcells (setL h n s m)) ∧
      Below B w (((w.alloc o).drewN nq).setCell ⟨g, k * 3 + 2, none⟩ (.int .u8 m)) ∧ Others hb (.slice (some ⟨g, 0, none⟩) h.length cap) w (((w.alloc o).drewN nq).setCell ⟨g, k * 3 + 2, none⟩ (.int .u8 m)) := by
  have hne := set_ne hvar hown
  have hlt := lt_of_block hvar
  have hg := hown.lt g rfl
  have hown1 : ((w.alloc o).drewN nq).ownsRow B 49 3 (.slice (some ⟨g, 0, none⟩) h.length cap) h.length (hcells h) := hown.alloc o
  have hset : setL h n s m = h.set k ⟨h[k].n, h[k].s, m⟩ := setL_at h n s m k hk (fun j hj => hm j hj (by omega)) (by rw [Hd.key, hN, hS]; exact keyB_iff.1 hkey)
  refine ⟨.slice (some ⟨g, 0, none⟩) h.length cap, ?_, ?_, ?_, ?_⟩
  · rw [Below.heap_setCell _ _ _ _ (Ne.symm hne)]
    exact (Below.heap_alloc w o hb hlt).trans hvar
  · have := (hown1.stored (k * 3 + 2) (.int .u8 m)).1
    rw [hcells_set h k hk m] at this
    rw [hset, List.length_set]
    exact this
  · exact (below_drewN ((Below.refl B w).alloc (by omega) o) nq).setCell hg.1 _
  · intro j hj _ hjg
    rw [Below.heap_setCell _ _ _ _ (fun e => hjg (by rw [e]; rfl))]
    exact Below.heap_alloc w o j hj

theorem set_kept (w : World) (hb : Nat) (o : Obj) (q : Nat) (o2 : Obj) (x : Obj) (w1 : World) (row : Option Nat) (hlt : hb < w.heap.size) (hvar : w.heap[hb]? = some x)
    (hgrow : (((w.alloc o).drewN q).alloc o2).grownBy w1 row) (hne : some hb ≠ row) : w1.heap[hb]? = some x := by
  rw [hgrow.block hb (by simp; omega) hne]
  exact (Below.heap_alloc ((w.alloc o).drewN q) o2 hb (by simp; omega)).trans ((Below.heap_alloc w o hb hlt).trans hvar)

theorem set_miss (w : World) (B hb : Nat) (v : Value) (h : List Hd) (n : Int) (s : ByteArray) (m : Int) (o : Obj) (q : Nat) (o2 : Obj) (w1 : World) (gg cap' : Nat)
    (hB : B ≤ hb) (hvar : w.heap[hb]? = some (.cells #[v] 40 (0, 0)))
    (hown : w.ownsRow B 49 3 v h.length (hcells h)) (hm : Miss h n s h.length)
    (hv1 : w1.heap[hb]? = some (.cells #[v] 40 (0, 0)))
    (hown1 : w1.ownsRow B 49 3 (.slice (some ⟨gg, 0, none⟩) (h.length + 1) cap') (h.length + 1) (hcells h ++ [.int .u64 n, .string s, .int .u8 m]))
    (hgrow : (((w.alloc o).drewN q).alloc o2).grownBy w1 v.ownBlock) :
    ∃ v', (w1.setCell ⟨hb, 0, none⟩ (.slice (some ⟨gg, 0, none⟩) (h.length + 1) cap')).heap[hb]? = some (.cells #[v'] 40 (0, 0)) ∧
      (w1.setCell ⟨hb, 0, none⟩ (.slice (some ⟨gg, 0, none⟩) (h.length + 1) cap')).ownsRow B 49 3 v' (setL h n s m).length (hcells (setL h n s m)) ∧
      Below B w (w1.setCell ⟨hb, 0, none⟩ (.slice (some ⟨gg, 0, none⟩) (h.length + 1) cap')) ∧ Others hb v w (w1.setCell ⟨hb, 0, none⟩ (.slice (some ⟨gg, 0, none⟩) (h.length + 1) cap')) := by
  have hlt := lt_of_block hvar
  have hset := setL_none h n s m (fun j hj => hm j hj hj)
  refine ⟨_, one_setCell hv1, ?_, ?_, ?_⟩
  · have hne : (Value.slice (some ⟨gg, 0, none⟩) (h.length + 1) cap').ownBlock ≠ some hb := by
      intro e
      have e : gg = hb := by simpa [Value.ownBlock] using e
      subst e
      rcases hown1.2 with ⟨h', _⟩ | ⟨g', cap'', cur, h', _, hg, _⟩
      · simp at h'
      · simp only [Value.slice.injEq, Option.some.injEq, Addr.mk.injEq, and_true, true_and] at h'
        obtain ⟨rfl, rfl⟩ := h'
        rw [hv1] at hg
        simp at hg
    rw [hset, hcells_append, List.length_append]
    exact ownsRow_setCell_other hown1 hne _
  · refine Below.setCell ?_ hB _
    have b1 : Below B w ((w.alloc o).drewN q) := below_drewN ((Below.refl B w).alloc (by omega) o) q
    exact (b1.alloc (by simp; omega) o2).grown hgrow (by simp; omega) (fun k hk => (hown.lt k hk).1)
  · intro j hj hjb hjg
    rw [Below.heap_setCell _ _ _ _ hjb, hgrow.block j (by simp; omega) (Ne.symm hjg)]
    exact (Below.heap_alloc ((w.alloc o).drewN q) o2 j (by simp; omega)).trans (Below.heap_alloc w o j hj)

theorem heap_two (w : World) (o : Obj) (q : Nat) (o2 : Obj) : (((w.alloc o).drewN q).alloc o2).heap[w.heap.size + 1]? = some o2 := by
  have := heap_alloc_new ((w.alloc o).drewN q) o2
  have e : ((w.alloc o).drewN q).heap.size = w.heap.size + 1 := by simp
  rwa [e] at this

set_option maxHeartbeats 400000 in
theorem set_row (B hb g cap : Nat) (h : List Hd) (n : Int) (s : ByteArray) (m : Int) (w : World)
    (hB : B ≤ hb) (hvar : w.heap[hb]? = some (.cells #[.slice (some ⟨g, 0, none⟩) h.length cap] 40 (0, 0)))
    (hown : w.ownsRow B 49 3 (.slice (some ⟨g, 0, none⟩) h.length cap) h.length (hcells h)) (hlen : h.length ≤ 1000000) :
    Calls Trym.prog 38 #[.pointer (some ⟨hb, 0, none⟩), .agg #[.int .u64 n, .string s], .int .u8 m] w fun e w' => e = .returned (.tuple #[]) ∧
      ∃ v', w'.heap[hb]? = some (.cells #[v'] 40 (0, 0)) ∧ w'.ownsRow B 49 3 v' (setL h n s m).length (hcells (setL h n s m)) ∧ Below B w w' ∧ Others hb (.slice (some ⟨g, 0, none⟩) h.length cap) w w' := by
  have hlt := lt_of_block hvar
  have c0 := cell_of_one hvar
  have f0 := free_of_one hvar
  obtain ⟨i0, hi0, hz0, hz1, hz2⟩ := info_parts Trym.info49
  go_enter Trym.func38, Trym.ntmps38
  go_wp2
  go_loopw [11] (fun c wr => ∃ k nq : Nat, k ≤ h.length ∧ c = .int .i64 k ∧ Miss h n s k ∧ wr = (w.alloc (.cells #[.int .u64 n, .string s] 45)).drewN nq) (fun c _ => h.length - (intOf c).toNat)
  case atStart => exact ⟨0, 0, Nat.zero_le _, rfl, fun j hj => by omega, rfl⟩
  case round =>
    obtain ⟨k, nq, hk, rfl, hmiss, rfl⟩ := hrel
    by_cases hkl : k < h.length
    · have hget := hcells_get h k hkl
      obtain ⟨N0, S0, M0, hN, hS, hM⟩ : ∃ N0 S0 M0, h[k].n = N0 ∧ h[k].s = S0 ∧ h[k].m = M0 := ⟨_, _, _, rfl, rfl, rfl⟩
      rw [hN, hS, hM] at hget
      have d0 : w.cell? ⟨g, k * 3, none⟩ = some (.int .u64 N0) := (hown.cellAt (k * 3) (by omega)).trans hget.1
      have d1 : w.cell? ⟨g, k * 3 + 1, none⟩ = some (.string S0) := (hown.cellAt (k * 3 + 1) (by omega)).trans hget.2.1
      have d2 : w.cell? ⟨g, k * 3 + 2, none⟩ = some (.int .u8 M0) := (hown.cellAt (k * 3 + 2) (by omega)).trans hget.2.2
      have f2 : w.frozen? ⟨g, k * 3 + 2, none⟩ = false := hown.frozenAt _
      have HN : Hid (h[k].n = N0) := hN
      have HS : Hid (h[k].s = S0) := hS
      clear hN hS hM hget
      have hg : g < w.heap.size := World.block_lt_of_cell? w _ d0
      have i1 : (0 : Int) ≤ (k : Int) := by omega
      have i2 : (k : Int) < (h.length : Int) := by omega
      go_wp2
      go_quiet (fail)
      go_wp2
      · have hkey : keyB N0 S0 n s = true := by assumption
        refine bodyPost_ret (results_none rfl _ _ _) rfl ?_
        exact ⟨rfl, set_hit w B hb g cap h n s m k _ _ hB hvar hown hkl hmiss HN.out HS.out hkey⟩
      · have hkey : keyB N0 S0 n s = false := by assumption
        go_roundw
        case rel => exact ⟨k + 1, _, by omega, by go_num, miss_succ hkl hmiss HN.out HS.out hkey, rfl⟩
        case measure => simp [intOf]; omega
    · have hk' : k = h.length := by omega
      subst hk'
      have hg : g < w.heap.size := (hown.lt g rfl).2
      have hgb : g ≠ hb := set_ne hvar hown
      have f1 : ∀ o, (w.alloc o).frozen? ⟨hb, 0, none⟩ = false := fun o => (((Below.refl w.heap.size w).alloc (Nat.le_refl _) o).frozen (p := ⟨hb, 0, none⟩) hlt).trans f0
      have f2 : ∀ o q o2, (((w.alloc o).drewN q).alloc o2).frozen? ⟨hb, 0, none⟩ = false := fun o q o2 => ((((Below.refl w.heap.size w).alloc (Nat.le_refl _) o).alloc (by simp) o2).frozen (p := ⟨hb, 0, none⟩) hlt).trans f0
      go_wp2
      go_region_law
        ((refine step_append_lies _ (by rfl) _ _ _ (by rfl) B 49 i0 _ 3 32 Trym.underlying40 hi0 hz0 hz1 hz2 rfl (by omega) (.slice (some ⟨g, 0, none⟩) h.length cap) h.length (hcells h) (by rfl) (by exact (hown.alloc _).alloc _)
            ⟨w.heap.size + 1, 0, none⟩ 1 1 [.int .u64 n, .string s, .int .u8 m] (by rfl) (by rfl) (World.news_of_block (cs := #[.int .u64 n, .string s, .int .u8 m]) (t := 49) (fr := (0, 0)) (heap_two w _ _ _)) (by simp [Value.oneCell'])
            (by omega) (by unfold maxLen; omega) (by omega) (by simp; omega) (w.heap.size + 2) (by simp) ?_; intro gg cap' w1 hown1 hgrow hat hlt1; have hv1 := set_kept w hb _ _ _ _ w1 _ hlt hvar hgrow (by simp [Value.ownBlock]; omega); have hvc := cell_of_one hv1; have hvf := free_of_one hv1))
      all_goals go_end0
      all_goals exact ⟨rfl, set_miss w B hb _ h n s m _ _ _ _ _ _ hB hvar hown hmiss hv1 hown1 hgrow⟩

set_option maxHeartbeats 400000 in
theorem set_nil (B hb : Nat) (n : Int) (s : ByteArray) (m : Int) (w : World)
    (hB : B ≤ hb) (hvar : w.heap[hb]? = some (.cells #[.slice none 0 0] 40 (0, 0))) :
    Calls Trym.prog 38 #[.pointer (some ⟨hb, 0, none⟩), .agg #[.int .u64 n, .string s], .int .u8 m] w fun e w' => e = .returned (.tuple #[]) ∧
      ∃ v', w'.heap[hb]? = some (.cells #[v'] 40 (0, 0)) ∧ w'.ownsRow B 49 3 v' (setL [] n s m).length (hcells (setL [] n s m)) ∧ Below B w w' ∧ Others hb (.slice none 0 0) w w' := by
  have hlt := lt_of_block hvar
  have c0 := cell_of_one hvar
  have f0 := free_of_one hvar
  have hown := World.ownsRow_nil w B 49 3
  obtain ⟨i0, hi0, hz0, hz1, hz2⟩ := info_parts Trym.info49
  go_enter Trym.func38, Trym.ntmps38
  go_wp2
  go_loopw [11] (fun c wr => c = .int .i64 0 ∧ wr = (w.alloc (.cells #[.int .u64 n, .string s] 45)).drewN 0) (fun _ _ => 0)
  case atStart => exact ⟨rfl, rfl⟩
  case round =>
    obtain ⟨rfl, rfl⟩ := hrel
    go_wp2
    go_region_law
      ((refine step_append_lies _ (by rfl) _ _ _ (by rfl) B 49 i0 _ 3 32 Trym.underlying40 hi0 hz0 hz1 hz2 rfl (by omega) (.slice none 0 0) 0 [] (by rfl) (by exact (hown.alloc _).alloc _)
          ⟨w.heap.size + 1, 0, none⟩ 1 1 [.int .u64 n, .string s, .int .u8 m] (by rfl) (by rfl) (World.news_of_block (cs := #[.int .u64 n, .string s, .int .u8 m]) (t := 49) (fr := (0, 0)) (heap_two w _ _ _)) (by simp [Value.oneCell'])
          (by omega) (by unfold maxLen; omega) (by omega) (by simp; omega) (w.heap.size + 2) (by simp) ?_; intro gg cap' w1 hown1 hgrow hat hlt1; have hv1 := set_kept w hb _ _ _ _ w1 _ hlt hvar hgrow (by simp [Value.ownBlock]); have hvc := cell_of_one hv1; have hvf := free_of_one hv1))
    all_goals go_end0
    all_goals exact ⟨rfl, set_miss w B hb _ [] n s m _ _ _ _ _ _ hB hvar hown (fun j hj => by simp at hj) hv1 hown1 hgrow⟩

theorem set_any (B hb : Nat) (v : Value) (h : List Hd) (n : Int) (s : ByteArray) (m : Int) (w : World)
    (hB : B ≤ hb) (hvar : w.heap[hb]? = some (.cells #[v] 40 (0, 0))) (hown : w.ownsRow B 49 3 v h.length (hcells h)) (hlen : h.length ≤ 1000000) :
    Calls Trym.prog 38 #[.pointer (some ⟨hb, 0, none⟩), .agg #[.int .u64 n, .string s], .int .u8 m] w fun e w' => e = .returned (.tuple #[]) ∧
      ∃ v', w'.heap[hb]? = some (.cells #[v'] 40 (0, 0)) ∧ w'.ownsRow B 49 3 v' (setL h n s m).length (hcells (setL h n s m)) ∧ Below B w w' ∧ Others hb v w w' := by
  have hform : (v = .slice none 0 0 ∧ h.length = 0) ∨ ∃ g cap, v = .slice (some ⟨g, 0, none⟩) h.length cap := by
    rcases hown.2 with e | ⟨g, cap, cur, e, _⟩
    · exact .inl e
    · exact .inr ⟨g, cap, e⟩
  rcases hform with ⟨e, e0⟩ | ⟨g, cap, e⟩
  · subst e
    obtain rfl : h = [] := List.length_eq_zero_iff.1 e0
    exact set_nil B hb n s m w hB hvar
  · subst e
    exact set_row B hb g cap h n s m w hB hvar hown hlen

set_option maxHeartbeats 400000 in
theorem zzset_full (B hb : Nat) (v : Value) (h : List Hd) (n : Int) (s : ByteArray) (m : Int) (w : World)
    (hB : B ≤ hb) (hvar : w.heap[hb]? = some (.cells #[v] 40 (0, 0))) (hown : w.ownsRow B 49 3 v h.length (hcells h)) (hlen : h.length ≤ 1000000) :
    Calls Trym.prog 23 #[.pointer (some ⟨hb, 0, none⟩), .agg #[.int .u64 n, .string s], .int .u8 m] w fun e w' => e = .returned (.tuple #[]) ∧
      ∃ v', w'.heap[hb]? = some (.cells #[v'] 40 (0, 0)) ∧ w'.ownsRow B 49 3 v' (setL h n s m).length (hcells (setL h n s m)) ∧ Below B w w' ∧ Others hb v w w' := by
  have hlt := lt_of_block hvar
  have hvar' : ∀ o, (w.alloc o).heap[hb]? = some (.cells #[v] 40 (0, 0)) := fun o => (Below.heap_alloc w o hb hlt).trans hvar
  have hb' : ∀ o, Below B w (w.alloc o) := fun o => (Below.refl B w).alloc (by omega) o
  have ho' : ∀ o w', Others hb v (w.alloc o) w' → Others hb v w w' := fun o w' h j hj h1 h2 => (h j (by simp; omega) h1 h2).trans (Below.heap_alloc w o j hj)
  go_enter Trym.func23, Trym.ntmps23
  go_wp2_with fail
  refine (set_any B hb v h n s m _ hB (hvar' _) (hown.alloc _) hlen).mono ?_
  rintro e w' ⟨rfl, v', a1, a2, a3, a4⟩
  go_wp2
  go_end0
  exact ⟨rfl, v', a1, a2, (hb' _).trans a3, ho' _ _ a4⟩

theorem zzset_any (B hb : Nat) (v : Value) (h : List Hd) (n : Int) (s : ByteArray) (m : Int) (w : World)
    (hB : B ≤ hb) (hvar : w.heap[hb]? = some (.cells #[v] 40 (0, 0))) (hown : w.ownsRow B 49 3 v h.length (hcells h)) (hlen : h.length ≤ 1000000) :
    Calls Trym.prog 23 #[.pointer (some ⟨hb, 0, none⟩), .agg #[.int .u64 n, .string s], .int .u8 m] w fun e w' => e = .returned (.tuple #[]) ∧
      ∃ v', w'.heap[hb]? = some (.cells #[v'] 40 (0, 0)) ∧ w'.ownsRow B 49 3 v' (setL h n s m).length (hcells (setL h n s m)) ∧ Below B w w' :=
  (zzset_full B hb v h n s m w hB hvar hown hlen).mono fun _ _ ⟨a, v', b, c, d, _⟩ => ⟨a, v', b, c, d⟩

end Go.Proofs.Qxb6600215aMods
