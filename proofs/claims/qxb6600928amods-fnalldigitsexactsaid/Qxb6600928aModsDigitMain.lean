/-
  THE WALK OF FnAllDigitsExact.
-/
import Derived.Test.Qxb6600928aModsDigitWalks
namespace Go.Proofs.Qxb6600928aMods
open Go.RowKit

theorem Trym.info5 : (Trym.prog.info? 5).map (fun i => (i.zero, i.size, i.bytes)) = some (some (.int .u8 0), 1, 1) := by kernel_rfl
theorem Trym.size5 : (Trym.prog.info? 5).map (·.size) = some 1 := by kernel_rfl

set_option maxRecDepth 100000 in
set_option maxHeartbeats 1000000 in
theorem digits_nil (w : World) : Calls Trym.prog 5 #[.slice none 0 0] w fun e w' => e = .returned (.bool true) ∧ Below w.heap.size w w' := by
  have hnn := fun w => run_neq_slice_nil_any (P := Trym.prog) w 26 5 none 0 0 0 0 Trym.underlying26
  go_enter Trym.func5, Trym.ntmps5
  go_wp2_with fail
  refine (bytesDigits_any _ _ _ _ (by omega)).mono ?_
  rintro e w ⟨rfl, rfl⟩
  go_wp2_with fail
  refine (zzallDigits_any none 0 0 (fun _ => 0) _ ⟨by omega, .inl rfl⟩).mono ?_
  rintro e w ⟨rfl, rfl⟩
  go_wp2_with fail
  refine (model_any none 0 0 (fun _ => 0) _ ⟨by omega, .inl rfl⟩).mono ?_
  rintro e w ⟨rfl, rfl⟩
  go_wp2
  go_ret
  exact ⟨rfl, Below.refl _ _⟩

set_option maxRecDepth 100000 in
set_option maxHeartbeats 1000000 in
theorem digits_long (x : Addr) (len cap : Nat) (w : World) (hm : len ≤ 9223372036854775807) (h : 1048576 < len) :
    Calls Trym.prog 5 #[.slice (some x) len cap] w fun e w' => e = .returned (.bool true) ∧ Below w.heap.size w w' := by
  have hd : decide (len ≤ 1048576) = false := by simp; omega
  go_enter Trym.func5, Trym.ntmps5
  go_wp2_with fail
  refine (bytesDigits_any _ _ _ _ hm).mono ?_
  rintro e w ⟨rfl, rfl⟩
  rw [hd]
  clear hd
  go_wp2
  go_ret
  exact ⟨rfl, Below.refl _ _⟩

theorem made_row {w w1 : World} {len : Nat} {xs : List Value} (h : w1.ownsRow w.heap.size 5 1 (.slice (some ⟨w.heap.size, 0, none⟩) len len) len xs) : ∃ cur : List Value, Hid (w1.heap[w.heap.size]? = some (.cells cur.toArray 5 (0, 0))) ∧ cur.length = len := by
  rcases h.2 with ⟨h', _⟩ | ⟨g, cap, cur, h', _, hg, _, _, hs, _⟩
  · simp at h'
  · simp only [Value.slice.injEq, Option.some.injEq, Addr.mk.injEq, and_true, true_and] at h'
    obtain ⟨rfl, rfl⟩ := h'
    exact ⟨cur.toList, by show _ = _; simpa using hg, by simpa using hs⟩

/-- The bytes as cells. -/
def bcells (Z : Nat → Int) (n : Nat) : List Value := (List.range n).map fun i => .int .u8 (Z i)
theorem bcells_length (Z : Nat → Int) (n : Nat) : (bcells Z n).length = n := by simp [bcells]
theorem bcells_one (Z : Nat → Int) (n : Nat) : ∀ v ∈ bcells Z n, v.oneCell' = true := by
  intro v hv
  simp only [bcells, List.mem_map] at hv
  obtain ⟨i, _, rfl⟩ := hv
  rfl
theorem bcells_src {w w1 : World} {x : Addr} {len : Nat} {Z : Nat → Int} (hc : ∀ i, i < len → w.cell? (x.add i) = some (.int .u8 (Z i))) (hb : Below w.heap.size w w1) : ∀ j v, (bcells Z len)[j]? = some v → w1.cell? (x.add j) = some v := by
  intro j v hv
  have hj : j < len := by
    have := (List.getElem?_eq_some_iff.1 hv).1
    simpa [bcells] using this
  have e : v = .int .u8 (Z j) := by
    simp [bcells, hj] at hv
    exact hv.symm
  rw [e]
  exact cell_later hb (hc j hj)
theorem splice_all (cur cs : List Value) (h : cur.length = cs.length) : splice cur 0 cs = cs := by
  simp [splice, h]
theorem bcells_row {w : World} {g len : Nat} {Z : Nat → Int} {cur : List Value} (hg : w.heap[g]? = some (.cells (splice cur 0 (bcells Z len)).toArray 5 (0, 0))) (hcur : cur.length = len) (hl : len ≤ 1048576) (hz : ∀ i, i < len → 0 ≤ Z i ∧ Z i ≤ 255) :
    ByteRow w (some ⟨g, 0, none⟩) len Z := by
  rw [splice_all cur (bcells Z len) (by rw [hcur, bcells_length])] at hg
  refine ⟨by omega, .inr ⟨g, 0, rfl, lt_of_block hg, fun i hi => ⟨?_, hz i hi⟩⟩⟩
  rw [cell_of_row w g (0 + i) _ 5 (0, 0) hg]
  simp [bcells, hi]

set_option maxRecDepth 100000 in
set_option maxHeartbeats 1000000 in
theorem digits_main (x : Addr) (len cap : Nat) (Z : Nat → Int) (w : World) (h : len ≤ 1048576) (hc : Hid (∀ i, i < len → w.cell? (x.add i) = some (.int .u8 (Z i)))) (hz : Hid (∀ i, i < len → 0 ≤ Z i ∧ Z i ≤ 255)) :
    Calls Trym.prog 5 #[.slice (some x) len cap] w fun e w' => e = .returned (.bool true) ∧ Below w.heap.size w w' := by
  have hd : decide (len ≤ 1048576) = true := by simpa using h
  have hd2 : decide ((1048576 : Int) < (len : Int)) = false := by simp; omega
  have hnn := fun w => run_neq_slice_nil_any (P := Trym.prog) w 26 5 (some x) len cap 0 0 Trym.underlying26
  obtain ⟨i0, hi0, hz0, hz1, hz2⟩ := info_parts Trym.info5
  obtain ⟨cs, hcs⟩ : ∃ cs, cs = bcells Z len := ⟨_, rfl⟩
  have hcsl : cs.length = len := by rw [hcs]; exact bcells_length Z len
  have HCS : Hid (cs = bcells Z len) := hcs
  have HL : Hid (cs.length = len) := hcsl
  clear hcs hcsl
  go_enter Trym.func5, Trym.ntmps5
  go_wp2_with fail
  refine (bytesDigits_any _ _ _ _ (by omega)).mono ?_
  rintro e w ⟨rfl, rfl⟩
  rw [hd]
  clear hd
  go_wp2_with (first
    | (at_make; refine wpList_make_full _ rfl _ _ 26 rfl w.heap.size 5 i0 _ 1 Trym.underlying26 hi0 hz0 hz1 _ _ _ _ len rfl rfl rfl rfl (by rw [hz2]; omega) (by unfold maxLen; omega) (Nat.le_refl _) ?_; intro w1 hown hgrow; obtain ⟨cur, hcur, hcl⟩ := made_row hown; have hb1 : Below w.heap.size w w1 := (Below.refl _ _).grown hgrow (Nat.le_refl _) (fun k hk => by cases hk); have HB1 : Hid (Below w.heap.size w w1) := hb1; have HCL : Hid (cur.length = len) := hcl; clear hown hgrow hb1 hcl)
    | (have _t := hcur; refine wpList_copy_splice rfl (.tmp 15) (.tmp 16) 26 26 rfl 5 Trym.underlying26 Trym.size5 _ _ _ _ _ _ rfl rfl w.heap.size 0 cur 5 hcur.out cs (by rw [HL.out]; exact (Nat.min_self _).symm) (fun _ => ⟨rfl, x, rfl, by rw [HCS.out]; exact bcells_src hc.out HB1.out⟩) (by rw [HL.out, HCL.out]; omega) (by rw [HCS.out]; exact bcells_one Z len) w.heap.size w HB1.out (Nat.le_refl _) ?_; intro w2 HG2 hB2; have HB2 : Hid (Below w.heap.size w w2) := hB2; clear hB2 hcur _t))
  rw [HCS.out] at HG2
  have hrow : ByteRow w2 (some ⟨w.heap.size, 0, none⟩) len Z := bcells_row HG2.out HCL.out h hz.out
  have HR : Hid (ByteRow w2 (some ⟨w.heap.size, 0, none⟩) len Z) := hrow
  clear hrow HG2
  refine (zzallDigits_any _ _ _ Z _ HR.out).mono ?_
  rintro e w2 ⟨rfl, rfl⟩
  go_wp2_with fail
  refine (model_any _ _ _ Z _ HR.out).mono ?_
  rintro e w2 ⟨rfl, rfl⟩
  go_wp2
  go_ret
  exact ⟨ret_bool (by simp), HB2.out⟩

end Go.Proofs.Qxb6600928aMods
