/-
  THE WALK OF FnPartsFromExact.
-/
import Derived.Test.Qxb6600215aModsPartsWalks
import Derived.Test.Qxb6600215aModsBounds2
import Derived.Deep.QuietTactic
import Derived.BigQuiet
namespace Go.Proofs.Qxb6600215aMods
open Go.RowKit

theorem StrRow.below {w w' : World} {ao : Option Addr} {len : Nat} {S : Nat → ByteArray} (h : StrRow w ao len S) (hb : Below w.heap.size w w') : StrRow w' ao len S := by
  refine ⟨h.1, ?_⟩
  rcases h.2 with e | ⟨b, off, e, hl, hc⟩
  · exact .inl e
  · refine .inr ⟨b, off, e, Nat.lt_of_lt_of_le hl hb.size, fun i hi => ?_⟩
    rw [hb.cell (p := ⟨b, off + i, none⟩) hl]
    exact hc i hi

/-- The first k ranges are not empty. -/
def AllNE (F T : Nat → ByteArray) (k : Nat) : Prop := ∀ i, i < k → zne (F i) (T i) = true
theorem allNE_succ {F T : Nat → ByteArray} {k : Nat} (h : AllNE F T k) (hk : zne (F k) (T k) = true) : AllNE F T (k + 1) := by
  intro i hi
  by_cases e : i = k
  · subst e; exact hk
  · exact h i (by omega)
theorem se_nil : se { data := #[] } = true := by simp [se, ByteArray.toList_eq]

/-- What the second loop wants of round k where the range is taken. -/
theorem parts_facts (F T : Nat → ByteArray) (key : ByteArray) (n k : Nat) (hk : k < n) (h : zne key (T k) = true) (hne : zne (F k) (T k) = true) (x : ByteArray) :
    (partsTo F T key k).length < (partsTo F T key n).length ∧
    (rcells (partsTo F T key n))[(partsTo F T key k).length * 2]? = some (.string (smax (F k) key)) ∧ (rcells (partsTo F T key n))[(partsTo F T key k).length * 2 + 1]? = some (.string (T k)) ∧
    zne (smax (F k) key) (T k) = true ∧ zin x (smax (F k) key) (T k) = (zin x (F k) (T k) && !Op.bytesLess x.toList key.toList) ∧ (partsTo F T key (k + 1)).length = (partsTo F T key k).length + 1 := by
  have hlt := parts_lt F T key k n hk h
  have hat := parts_at F T key k n hk h
  rw [List.getElem?_eq_getElem hlt] at hat
  have e : (partsTo F T key n)[(partsTo F T key k).length] = (smax (F k) key, T k) := by simpa using hat
  obtain ⟨g0, g1⟩ := rcells_get (partsTo F T key n) _ hlt
  rw [e] at g0 g1
  exact ⟨hlt, g0, g1, part_ne hne h, part_in, by rw [partsTo_take F T key k h, List.length_append]; rfl⟩

set_option maxRecDepth 100000 in
set_option maxHeartbeats 1000000 in
theorem partsExact_main (a0 : Option Addr) (c0 : Nat) (a1 : Option Addr) (n c1 : Nat) (key x : ByteArray) (F T : Nat → ByteArray) (w : World) (hn' : n ≤ 65536) (h0 : Hid (StrRow w a0 n F)) (h1 : Hid (StrRow w a1 n T)) :
    Calls Trym.prog 8 #[.slice a0 n c0, .slice a1 n c1, .string key, .string x] w fun e w' => e = .returned (.bool true) ∧ Below w.heap.size w w' := by
  have t1 : decide ((65536 : Int) < (n : Int)) = false := by simp; omega
  have t2 : ((n : Int) != (n : Int)) = false := by simp
  go_enter Trym.func8, Trym.ntmps8
  go_wp2_with fail
  refine (bytesParts_any _ _ _ _ _ _ _ _ F T _ h0 h1).mono ?_
  rintro e w ⟨⟨b, rfl⟩, rfl⟩
  cases b
  · go_wp2
    go_ret
    exact ⟨rfl, Below.refl _ _⟩
  go_wp2_with fail
  refine (addStr_any _ _ _).mono ?_
  rintro e w ⟨⟨r1, rfl⟩, rfl⟩
  go_wp2_with fail
  refine (addStr_any _ _ _).mono ?_
  rintro e w ⟨⟨r2, rfl⟩, rfl⟩
  go_wp2_with fail
  refine (addStrs_any _ _ _ _ F _ h0.out).mono ?_
  rintro e w ⟨⟨r3, rfl⟩, rfl⟩
  go_wp2_with fail
  refine (addStrs_any _ _ _ _ T _ h1.out).mono ?_
  rintro e w ⟨⟨r, rfl⟩, rfl⟩
  by_cases hr : 1048576 < r
  · go_wp2
    go_ret
    exact ⟨rfl, Below.refl _ _⟩
  have t3 : decide (1048576 < r) = false := by simpa using hr
  clear hr
  go_wp2
  go_loopw [10] (fun i wr => ∃ k : Nat, k ≤ n ∧ i = .int .i64 k ∧ AllNE F T k ∧ Below w.heap.size w wr) (fun i _ => n - (intOf i).toNat)
  case atStart => exact ⟨0, Nat.zero_le _, rfl, fun i hi => by omega, Below.refl _ _⟩
  case round =>
    obtain ⟨k, hk, rfl, hne, hbel⟩ := hrel
    by_cases hkn : k < n
    · obtain ⟨b0, o0, e0, l0, d0⟩ := h0.out.at k hkn
      obtain ⟨b1, o1, e1, l1, d1⟩ := h1.out.at k hkn
      subst e0
      subst e1
      have d0 : wr.cell? ⟨b0, o0 + k, none⟩ = some (.string (F k)) := (hbel.cell (p := ⟨b0, o0 + k, none⟩) l0).trans d0
      have d1 : wr.cell? ⟨b1, o1 + k, none⟩ = some (.string (T k)) := (hbel.cell (p := ⟨b1, o1 + k, none⟩) l1).trans d1
      have Hbel : Hid (Below w.heap.size w wr) := hbel
      clear h0 h1 hbel
      have i1 : (0 : Int) ≤ (k : Int) := by omega
      have i2 : (k : Int) < (n : Int) := by omega
      rcases Bool.eq_false_or_eq_true (zne (F k) (T k)) with hz | hz
      · go_wp2
        go_quiet ((go_at_call 21; exact Calls.quiet_of_same (nonEmpty_any _ _ _)))
        go_wp2
        go_roundw
        case rel => exact ⟨k + 1, by omega, by go_num, allNE_succ hne hz, below_drewN Hbel.out _⟩
        case measure => simp [intOf]; omega
      · go_wp2
        go_quiet ((go_at_call 21; exact Calls.quiet_of_same (nonEmpty_any _ _ _)))
        go_wp2
        go_ret
        exact ⟨rfl, below_drewN Hbel.out _⟩
    · have ek : k = n := by omega
      rw [ek] at hne
      have Hne : Hid (AllNE F T n) := hne
      have Hbel : Hid (Below w.heap.size w wr) := hbel
      clear hne ek hbel
      go_wp2_with fail
      refine (ranges_any _ _ _ _ _ F T _ hn' (h0.out.below Hbel.out) (h1.out.below Hbel.out)).mono ?_
      rintro e w1 ⟨rfl, hown, hb1⟩
      go_wp2_with fail
      refine (zzparts_row _ _ n n F T key _ hn' hown).mono ?_
      rintro e w2 ⟨v, rfl, hown2, hb2⟩
      obtain ⟨L, hL⟩ : ∃ L, L = (partsTo F T key n).length := ⟨_, rfl⟩
      have hL2 : L ≤ 65536 := by have := partsTo_len F T key n; omega
      rw [← hL] at hown2
      obtain ⟨ao, cap, hv, hrow⟩ := own_form hown2
      subst hv
      have HL : Hid (L = (partsTo F T key n).length) := hL
      have Hrow : Hid _ := hrow
      have hbw2 : Below w.heap.size w w2 := (Hbel.out.trans (hb1.mono Hbel.out.size)).trans (hb2.mono (Nat.le_trans Hbel.out.size hb1.size))
      have Hw2 : Hid (Below w.heap.size w w2) := hbw2
      have hs2 : w.heap.size ≤ w2.heap.size := hbw2.size
      clear hown hown2 hb1 hb2 hL hrow hbw2 Hbel
      go_wp2
      go_loopw [12, 13] (fun j i wx => ∃ q : Nat, q ≤ n ∧ j = .int .i64 ((partsTo F T key q).length : Nat) ∧ i = .int .i64 q ∧ Below w2.heap.size w2 wx) (fun _ i _ => n - (intOf i).toNat)
      case atStart => exact ⟨0, Nat.zero_le _, rfl, rfl, Below.refl _ _⟩
      case round =>
        obtain ⟨q, hq, rfl, rfl, hbx⟩ := hrel
        obtain ⟨wo, rfl⟩ : ∃ wo : World, wo = wr := ⟨_, rfl⟩
        obtain ⟨J, hJ⟩ : ∃ J, J = (partsTo F T key q).length := ⟨_, rfl⟩
        rw [← hJ]
        have HJ : Hid (J = (partsTo F T key q).length) := hJ
        have hJ4 : J ≤ 65536 := by have := partsTo_len F T key q; omega
        have Hbx : Hid (Below w2.heap.size w2 wo) := hbx
        have hsx : w2.heap.size ≤ wo.heap.size := hbx.size
        clear hJ hbx
        by_cases hqn : q < n
        · obtain ⟨b0, o0, e0, l0, d0⟩ := h0.out.at q hqn
          obtain ⟨b1, o1, e1, l1, d1⟩ := h1.out.at q hqn
          subst e0
          subst e1
          have d0 : wo.cell? ⟨b0, o0 + q, none⟩ = some (.string (F q)) := (Hbx.out.cell (p := ⟨b0, o0 + q, none⟩) (by exact Nat.lt_of_lt_of_le l0 hs2)).trans ((Hw2.out.cell (p := ⟨b0, o0 + q, none⟩) l0).trans d0)
          have d1 : wo.cell? ⟨b1, o1 + q, none⟩ = some (.string (T q)) := (Hbx.out.cell (p := ⟨b1, o1 + q, none⟩) (by exact Nat.lt_of_lt_of_le l1 hs2)).trans ((Hw2.out.cell (p := ⟨b1, o1 + q, none⟩) l1).trans d1)
          clear h0 h1
          have hneq : zne (F q) (T q) = true := Hne.out q hqn
          have Hneq : Hid (zne (F q) (T q) = true) := hneq
          have HZ : Hid (zto (F q) (T q) key { data := #[] } = zne key (T q)) := zto_key se_nil hneq
          clear hneq
          have i1 : (0 : Int) ≤ (q : Int) := by omega
          have i2 : (q : Int) < (n : Int) := by omega
          rcases Bool.eq_false_or_eq_true (zto (F q) (T q) key { data := #[] }) with hz | hz
          · have hzk : zne key (T q) = true := by rw [← HZ.out]; exact hz
            obtain ⟨f1, f2, f3, f4, f5, f6⟩ := parts_facts F T key n q hqn hzk Hneq.out x
            rw [← HJ.out, ← HL.out] at f1
            rw [← HJ.out] at f2 f3 f6
            obtain ⟨g, hao, hgl, hcell⟩ := Hrow.out (by omega)
            subst hao
            have r0 : wo.cell? ⟨g, J * 2, none⟩ = some (.string (smax (F q) key)) := (Hbx.out.cell (p := ⟨g, J * 2, none⟩) hgl).trans ((hcell (J * 2) (by omega)).trans f2)
            have r1 : wo.cell? ⟨g, J * 2 + 1, none⟩ = some (.string (T q)) := (Hbx.out.cell (p := ⟨g, J * 2 + 1, none⟩) hgl).trans ((hcell (J * 2 + 1) (by omega)).trans f3)
            have H4 : Hid _ := f4
            have H5 : Hid _ := f5
            have H6 : Hid _ := f6
            clear f2 f3 f4 f5 f6 hcell hzk Hrow
            have j1 : (0 : Int) ≤ (J : Int) := by omega
            have j2 : (J : Int) < (L : Int) := by omega
            go_wp2
            go_quiet ((go_at_call 33; exact Calls.quiet_of_same (touch_any _ _ _ _ _)))
            go_wp2_with fail
            refine (from_any _ _ _).mono ?_
            rintro e w3 ⟨rfl, hb3⟩
            have b3 : Below wo.heap.size wo w3 := (below_drewN (Below.refl _ _) _).trans hb3
            have s0 : wo.heap.size ≤ w3.heap.size := b3.size
            have x0 : w3.cell? ⟨g, J * 2, none⟩ = some (.string (smax (F q) key)) := cell_later b3 r0
            have x1 : w3.cell? ⟨g, J * 2 + 1, none⟩ = some (.string (T q)) := cell_later b3 r1
            have y0 : w3.cell? ⟨b0, o0 + q, none⟩ = some (.string (F q)) := cell_later b3 d0
            have y1 : w3.cell? ⟨b1, o1 + q, none⟩ = some (.string (T q)) := cell_later b3 d1
            have B3 : Hid (Below wo.heap.size wo w3) := b3
            clear hb3 b3 d0 d1 r0 r1
            go_wp2_with fail
            refine (to_any _ _ _).mono ?_
            rintro e w4 ⟨rfl, hb4⟩
            have z0 : w4.cell? ⟨b0, o0 + q, none⟩ = some (.string (F q)) := cell_later hb4 y0
            have z1 : w4.cell? ⟨b1, o1 + q, none⟩ = some (.string (T q)) := cell_later hb4 y1
            have B4 : Hid (Below wo.heap.size wo w4) := B3.out.trans (hb4.mono s0)
            clear hb4 x0 x1 y0 y1 B3
            go_wp2_with fail
            refine (nonEmpty_any _ _ _).mono ?_
            rintro e w4 ⟨rfl, rfl⟩
            rw [H4.out]
            go_wp2
            rcases Bool.eq_false_or_eq_true (zin x (F q) (T q)) with hin | hin
            · rcases Bool.eq_false_or_eq_true (Op.bytesLess x.toList key.toList) with hsk | hsk
              · have hpi : zin x (smax (F q) key) (T q) = false := by rw [H5.out, hin, hsk]; rfl
                go_quiet ((go_at_call 17; exact Calls.quiet_of_same (in_any _ _ _ _)))
                go_wp2
                go_roundw
                case rel => exact ⟨q + 1, by omega, by rw [H6.out]; go_num, by go_num, below_drewN (Hbx.out.trans (B4.out.mono hsx)) _⟩
                case measure => simp [intOf]; omega
              · have hpi : zin x (smax (F q) key) (T q) = true := by rw [H5.out, hin, hsk]; rfl
                go_quiet ((go_at_call 17; exact Calls.quiet_of_same (in_any _ _ _ _)))
                go_wp2
                go_roundw
                case rel => exact ⟨q + 1, by omega, by rw [H6.out]; go_num, by go_num, below_drewN (Hbx.out.trans (B4.out.mono hsx)) _⟩
                case measure => simp [intOf]; omega
            · have hpi : zin x (smax (F q) key) (T q) = false := by rw [H5.out, hin]; rfl
              go_quiet ((go_at_call 17; exact Calls.quiet_of_same (in_any _ _ _ _)))
              go_wp2
              go_roundw
              case rel => exact ⟨q + 1, by omega, by rw [H6.out]; go_num, by go_num, below_drewN (Hbx.out.trans (B4.out.mono hsx)) _⟩
              case measure => simp [intOf]; omega
          · have Hz : Hid (zne key (T q) = false) := by show zne key (T q) = false; rw [← HZ.out]; exact hz
            go_wp2
            go_quiet ((go_at_call 33; exact Calls.quiet_of_same (touch_any _ _ _ _ _)))
            go_wp2
            go_roundw
            case rel => exact ⟨q + 1, by omega, by rw [partsTo_skip F T key q Hz.out, ← HJ.out], by go_num, below_drewN Hbx.out _⟩
            case measure => simp [intOf]; omega
        · have hJL : ((J : Int) == (L : Int)) = true := by
            have e : q = n := by omega
            have e2 : J = L := by rw [HJ.out, HL.out, e]
            simp [e2]
          go_wp2
          go_ret
          exact ⟨rfl, Hw2.out.trans (Hbx.out.mono hs2)⟩

end Go.Proofs.Qxb6600215aMods
