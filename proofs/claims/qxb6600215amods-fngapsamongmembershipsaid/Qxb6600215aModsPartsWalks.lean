/-
  THE WALKS OF partsFrom, ZZPartsFrom.
-/
import Derived.Test.Qxb6600215aModsRangeRows
namespace Go.Proofs.Qxb6600215aMods
open Go.RowKit

/-- Go's 'max' of two strings. -/
theorem run_smax (w : World) (ts : Array TypeId) (t : TypeId) (x y : ByteArray) : (Builtin.max_ ts t #[.string x, .string y]).run Trym.prog w = .ok (.string (smax x y)) w := by
  cases h : Op.bytesLess x.toList y.toList <;> simp [Builtin.max_, Builtin.max2, Op.stringOp, asBool, smax, sl, h]

theorem news_two (w : World) (a b : ByteArray) (o : Obj) : ∀ j u, [Value.string a, Value.string b][j]? = some u → ((w.alloc o).alloc (.cells #[.string a, .string b] 30)).cell? ((⟨w.heap.size + 1, 0, none⟩ : Addr).add j) = some u := by
  have e : (w.alloc o).heap.size = w.heap.size + 1 := by simp
  have := cell_two_new (w.alloc o) (.string a) (.string b) 30
  rwa [e] at this

/-- A round that keeps the range. -/
theorem parts_keep {w wr w1 : World} {v v' : Value} {F T : Nat → ByteArray} {key : ByteArray} {k : Nat} {o o2 : Obj} (hk : zne key (T k) = true) (hbel : Below w.heap.size w wr) (hown : wr.ownsRow w.heap.size 30 2 v (partsTo F T key k).length (rcells (partsTo F T key k)))
    (hown1 : w1.ownsRow w.heap.size 30 2 v' ((partsTo F T key k).length + 1) (rcells (partsTo F T key k) ++ [.string (smax (F k) key), .string (T k)])) (hgrow : ((wr.alloc o).alloc o2).grownBy w1 v.ownBlock) :
    w1.ownsRow w.heap.size 30 2 v' (partsTo F T key (k + 1)).length (rcells (partsTo F T key (k + 1))) ∧ Below w.heap.size w w1 := by
  have hsz := hbel.size
  refine ⟨?_, ((hbel.alloc hsz o).alloc (by simp; omega) o2).grown hgrow (by simp; omega) (fun b hb => (hown.lt b hb).1)⟩
  rw [partsTo_take F T key k hk, rcells_append, List.length_append]
  exact hown1

set_option maxRecDepth 100000 in
set_option maxHeartbeats 1000000 in
theorem parts_row (B g n cap : Nat) (F T : Nat → ByteArray) (key : ByteArray) (w : World) (hn' : n ≤ 65536)
    (hown : Hid (w.ownsRow B 30 2 (.slice (some ⟨g, 0, none⟩) n cap) n (rcells (mkR F T n)))) :
    Calls Trym.prog 41 #[.slice (some ⟨g, 0, none⟩) n cap, .string key] w fun e w' =>
      ∃ v', e = .returned v' ∧ w'.ownsRow w.heap.size 30 2 v' (partsTo F T key n).length (rcells (partsTo F T key n)) ∧ Below w.heap.size w w' := by
  have hg : g < w.heap.size := (hown.out.lt g rfl).2
  have hmx := run_smax
  obtain ⟨i0, hi0, hz0, hz1, hz2⟩ := info_parts Trym.info30
  go_enter Trym.func41, Trym.ntmps41
  go_wp2
  go_loopw [5, 10] (fun v c wr => ∃ k : Nat, k ≤ n ∧ c = .int .i64 k ∧ wr.ownsRow w.heap.size 30 2 v (partsTo F T key k).length (rcells (partsTo F T key k)) ∧ Below w.heap.size w wr) (fun _ c _ => n - (intOf c).toNat)
  case atStart => exact ⟨0, Nat.zero_le _, rfl, World.ownsRow_nil _ _ _ _, Below.refl _ _⟩
  case round =>
    obtain ⟨k, hk, rfl, hownv, hbel⟩ := hrel
    by_cases hkn : k < n
    · obtain ⟨g0, g1⟩ := mkR_get F T n k hkn
      have d0 : wr.cell? ⟨g, k * 2, none⟩ = some (.string (F k)) := (hbel.cell (p := ⟨g, k * 2, none⟩) hg).trans ((hown.out.cellAt (k * 2) (by omega)).trans g0)
      have d1 : wr.cell? ⟨g, k * 2 + 1, none⟩ = some (.string (T k)) := (hbel.cell (p := ⟨g, k * 2 + 1, none⟩) hg).trans ((hown.out.cellAt (k * 2 + 1) (by omega)).trans g1)
      have hgr : g < wr.heap.size := World.block_lt_of_cell? wr _ d0
      have hsz := hbel.size
      have hpl := partsTo_len F T key k
      have i1 : (0 : Int) ≤ (k : Int) := by omega
      have i2 : (k : Int) < (n : Int) := by omega
      have Hownv : Hid (wr.ownsRow w.heap.size 30 2 u5 (partsTo F T key k).length (rcells (partsTo F T key k))) := hownv
      have Hbel : Hid (Below w.heap.size w wr) := hbel
      clear hownv hbel g0 g1
      have hgt := gt_raw (T k) key
      rcases Bool.eq_false_or_eq_true (T k).toList.isEmpty with h2 | h2
      · clear hgt
        have hz : zne key (T k) = true := zne_iff.2 (.inl h2)
        have Hz : Hid (zne key (T k) = true) := hz
        clear hz
        go_wp2_with (first
          | (at_builtin; refine wpList_append_own _ rfl _ _ 27 rfl w.heap.size 30 i0 _ 2 32 Trym.underlying27 hi0 hz0 hz1 hz2 rfl (by omega) _ _ _ rfl (by exact (Hownv.out.alloc _).alloc _) ⟨wr.heap.size + 1, 0, none⟩ 1 1 [.string (smax (F k) key), .string (T k)] rfl rfl (news_two wr _ _ _) (by simp [Value.oneCell']) (by unfold maxLen; omega) (by omega) (by simp; omega) ?_; intro v1 w1 hown1 hgrow _))
        have R := parts_keep Hz.out Hbel.out Hownv.out hown1 hgrow
        have HR : Hid _ := R
        clear R hown1 hgrow
        go_wp2
        go_roundw
        case rel => exact ⟨k + 1, by omega, by go_num, HR.out.1, HR.out.2⟩
        case measure => simp [intOf]; omega
      rcases Bool.eq_false_or_eq_true (sl key (T k)) with h3 | h3
      · rw [h3] at hgt
        have hz : zne key (T k) = true := zne_iff.2 (.inr h3)
        have Hz : Hid (zne key (T k) = true) := hz
        clear hz h3
        go_wp2_with (first
          | (at_builtin; refine wpList_append_own _ rfl _ _ 27 rfl w.heap.size 30 i0 _ 2 32 Trym.underlying27 hi0 hz0 hz1 hz2 rfl (by omega) _ _ _ rfl (by exact (Hownv.out.alloc _).alloc _) ⟨wr.heap.size + 1, 0, none⟩ 1 1 [.string (smax (F k) key), .string (T k)] rfl rfl (news_two wr _ _ _) (by simp [Value.oneCell']) (by unfold maxLen; omega) (by omega) (by simp; omega) ?_; intro v1 w1 hown1 hgrow _))
        have R := parts_keep Hz.out Hbel.out Hownv.out hown1 hgrow
        have HR : Hid _ := R
        clear R hown1 hgrow
        go_wp2
        go_roundw
        case rel => exact ⟨k + 1, by omega, by go_num, HR.out.1, HR.out.2⟩
        case measure => simp [intOf]; omega
      · rw [h3] at hgt
        have hz : zne key (T k) = false := by unfold zne; rw [h3]; show ((T k).toList.isEmpty || false) = false; rw [h2]; rfl
        have Hz : Hid (zne key (T k) = false) := hz
        clear hz h3
        go_wp2
        go_roundw
        case rel => exact ⟨k + 1, by omega, by go_num, by rw [partsTo_skip F T key k Hz.out]; exact Hownv.out.alloc _, Hbel.out.alloc hsz _⟩
        case measure => simp [intOf]; omega
    · have e : k = n := by omega
      rw [e] at hownv
      have Hownv : Hid (wr.ownsRow w.heap.size 30 2 u5 (partsTo F T key n).length (rcells (partsTo F T key n))) := hownv
      have Hbel : Hid (Below w.heap.size w wr) := hbel
      clear hownv hbel e
      go_wp2
      go_ret
      exact ⟨_, rfl, Hownv.out, Hbel.out⟩

set_option maxHeartbeats 400000 in
theorem zzparts_row (B g n cap : Nat) (F T : Nat → ByteArray) (key : ByteArray) (w : World) (hn' : n ≤ 65536)
    (hown : Hid (w.ownsRow B 30 2 (.slice (some ⟨g, 0, none⟩) n cap) n (rcells (mkR F T n)))) :
    Calls Trym.prog 32 #[.slice (some ⟨g, 0, none⟩) n cap, .string key] w fun e w' =>
      ∃ v', e = .returned v' ∧ w'.ownsRow w.heap.size 30 2 v' (partsTo F T key n).length (rcells (partsTo F T key n)) ∧ Below w.heap.size w w' := by
  go_enter Trym.func32, Trym.ntmps32
  go_wp2_with fail
  refine (parts_row B g n cap F T key _ hn' hown).mono ?_
  rintro e w' ⟨v', rfl, h1, h2⟩
  have H1 : Hid _ := h1
  have H2 : Hid _ := h2
  clear h1 h2
  go_wp2
  go_ret
  exact ⟨_, rfl, H1.out, H2.out⟩

/-- What a value that owns a row of L elements looks like. -/
theorem own_form {w : World} {B : Nat} {v : Value} {L : Nat} {xs : List Value} (h : w.ownsRow B 30 2 v L xs) : ∃ ao cap, v = .slice ao L cap ∧ (0 < L → ∃ g, ao = some ⟨g, 0, none⟩ ∧ g < w.heap.size ∧ ∀ j, j < L * 2 → w.cell? ⟨g, j, none⟩ = xs[j]?) := by
  have hlt := h.lt
  rcases h.2 with ⟨e, e0⟩ | ⟨g, cap, cur, e, _⟩
  · subst e0
    exact ⟨none, 0, e, fun hl => by omega⟩
  · refine ⟨some ⟨g, 0, none⟩, cap, e, fun _ => ⟨g, rfl, (hlt g (by rw [e]; rfl)).2, fun j hj => ?_⟩⟩
    subst e
    exact h.cellAt j hj

end Go.Proofs.Qxb6600215aMods
