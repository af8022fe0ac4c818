/-
  THE WALK OF FnGapsAmongMembership.
-/
import Derived.Test.Qxb6600215aModsGapsWalks
import Derived.Test.Qxb6600215aModsFitsWalk
namespace Go.Proofs.Qxb6600215aMods
open Go.RowKit

theorem StrRow.below {w w' : World} {ao : Option Addr} {len : Nat} {S : Nat → ByteArray} (h : StrRow w ao len S) (hb : Below w.heap.size w w') : StrRow w' ao len S := by
  refine ⟨h.1, ?_⟩
  rcases h.2 with e | ⟨b, off, e, hl, hc⟩
  · exact .inl e
  · refine .inr ⟨b, off, e, Nat.lt_of_lt_of_le hl hb.size, fun i hi => ?_⟩
    rw [hb.cell (p := ⟨b, off + i, none⟩) hl]
    exact hc i hi

/-- Does one of the first q answer yes? -/
def anyN (P : Nat → Bool) : Nat → Bool
  | 0 => false
  | q + 1 => anyN P q || P q
theorem anyN_iff (P : Nat → Bool) (q : Nat) : anyN P q = true ↔ ∃ i, i < q ∧ P i = true := by
  induction q with
  | zero => simp [anyN]
  | succ q ih =>
    rw [anyN, Bool.or_eq_true, ih]
    constructor
    · rintro (⟨i, hi, h⟩ | h)
      · exact ⟨i, by omega, h⟩
      · exact ⟨q, by omega, h⟩
    · rintro ⟨i, hi, h⟩
      by_cases e : i = q
      · subst e; exact .inr h
      · exact .inl ⟨i, by omega, h⟩

/-- Does k lie in range number j of the list? -/
def inG (k : ByteArray) (G : List (ByteArray × ByteArray)) (j : Nat) : Bool := zin k (G.getD j (k, k)).1 (G.getD j (k, k)).2

/-- THE PLAIN LAW at the end of the walk. -/
theorem member_law (F T : Nat → ByteArray) (rf rt k : ByteArray) (n : Nat) (hfit : Fit F T rf rt n) :
    anyN (inG k (gapsG F T rt n 0 rf)) (gapsG F T rt n 0 rf).length = (zin k rf rt && !anyN (fun i => zin k (F i) (T i)) n) := by
  have h1 : ∀ q, 0 ≤ q → q < 0 + n → zne (F q) (T q) = true ∧ zne (F q) rt = true := fun q _ hq => by
    obtain ⟨a, b, _, _⟩ := zto_le (hfit q (by omega)).1
    exact ⟨b, a⟩
  have h2 : ∀ q, 0 ≤ q → q + 1 < 0 + n → sl (F (q + 1)) (F q) = false := fun q _ hq => by
    have := (hfit (q + 1) (by omega)).2 (by omega)
    exact this
  have hm := gapsG_mem F T rt n 0 rf k h1 h2
  rw [Bool.eq_iff_iff, anyN_iff, Bool.and_eq_true, Bool.not_eq_true']
  have hl : (∃ i, i < (gapsG F T rt n 0 rf).length ∧ inG k (gapsG F T rt n 0 rf) i = true) ↔ ∃ g, g ∈ gapsG F T rt n 0 rf ∧ zin k g.1 g.2 = true := by
    constructor
    · rintro ⟨i, hi, h⟩
      refine ⟨(gapsG F T rt n 0 rf)[i], List.getElem_mem hi, ?_⟩
      unfold inG at h
      simpa [List.getD, hi] using h
    · rintro ⟨g, hg, h⟩
      obtain ⟨i, hi, e⟩ := List.getElem_of_mem hg
      refine ⟨i, hi, ?_⟩
      unfold inG
      simpa [List.getD, hi, e] using h
  rw [hl, hm]
  have hr : (∀ q, 0 ≤ q → q < 0 + n → zin k (F q) (T q) = false) ↔ anyN (fun i => zin k (F i) (T i)) n = false := by
    constructor
    · intro h
      cases e : anyN (fun i => zin k (F i) (T i)) n
      · rfl
      · obtain ⟨i, hi, h'⟩ := (anyN_iff _ n).1 e
        rw [h i (by omega) (by omega)] at h'
        cases h'
    · intro h q _ hq
      cases e : zin k (F q) (T q)
      · rfl
      · have := (anyN_iff (fun i => zin k (F i) (T i)) n).2 ⟨q, by omega, e⟩
        rw [h] at this
        cases this
  rw [hr]

set_option maxRecDepth 100000 in
set_option maxHeartbeats 1000000 in
theorem gapsMember_main (rf rt : ByteArray) (a0 : Option Addr) (n0 c0 : Nat) (a1 : Option Addr) (n1 c1 : Nat) (x : ByteArray) (F T : Nat → ByteArray) (w : World) (hn0 : n0 ≤ 65536) (hn1 : n1 ≤ 65536) (h0 : Hid (StrRow w a0 n0 F)) (h1 : Hid (StrRow w a1 n1 T)) :
    Calls Trym.prog 3 #[.string rf, .string rt, .slice a0 n0 c0, .slice a1 n1 c1, .string x] w fun e w' => e = .returned (.bool true) ∧ Below w.heap.size w w' := by
  have t0 : decide ((65536 : Int) < (n0 : Int)) = false := by simp; omega
  have t1 : decide ((65536 : Int) < (n1 : Int)) = false := by simp; omega
  go_enter Trym.func3, Trym.ntmps3
  go_wp2_with fail
  refine (bytesGaps_any _ _ _ _ _ _ _ _ _ F T _ h0 h1).mono ?_
  rintro e w ⟨⟨b, rfl⟩, rfl⟩
  cases b
  · go_wp2
    go_ret
    exact ⟨rfl, Below.refl _ _⟩
  go_wp2_with fail
  refine (addStr_any _ _ _).mono ?_
  rintro e w ⟨⟨r1, rfl⟩, rfl⟩
  go_wp2_with fail
  refine (addStr_any _ _ _).mono ?_
  rintro e w ⟨⟨r2, rfl⟩, rfl⟩
  go_wp2_with fail
  refine (addStr_any _ _ _).mono ?_
  rintro e w ⟨⟨r3, rfl⟩, rfl⟩
  go_wp2_with fail
  refine (addStrs_any _ _ _ _ F _ h0.out).mono ?_
  rintro e w ⟨⟨r4, rfl⟩, rfl⟩
  go_wp2_with fail
  refine (addStrs_any _ _ _ _ T _ h1.out).mono ?_
  rintro e w ⟨⟨r, rfl⟩, rfl⟩
  by_cases hr : 1048576 < r
  · go_wp2
    go_ret
    exact ⟨rfl, Below.refl _ _⟩
  have t3 : decide (1048576 < r) = false := by simpa using hr
  clear hr
  go_wp2_with fail
  refine (fits_any _ _ _ _ _ _ _ _ F T _ h0 h1).mono ?_
  rintro e wf ⟨⟨b, rfl, hfit⟩, hbf⟩
  cases b
  · have Hbf : Hid _ := hbf
    clear hfit hbf
    go_wp2
    go_ret
    exact ⟨rfl, Hbf.out⟩
  obtain ⟨hnn, hfit2⟩ := hfit rfl
  subst hnn
  have Hfit : Hid (Fit F T rf rt n0) := hfit2
  have Hbf : Hid (Below w.heap.size w wf) := hbf
  clear hfit hfit2 hbf
  go_wp2_with fail
  refine (makeRange_any _ _ _).mono ?_
  rintro e wm ⟨rfl, hbm⟩
  have Hbm : Hid (Below w.heap.size w wm) := Hbf.out.trans (hbm.mono Hbf.out.size)
  clear hbm Hbf
  go_wp2_with fail
  refine (ranges_any _ _ _ _ _ F T _ hn0 (h0.out.below Hbm.out) (h1.out.below Hbm.out)).mono ?_
  rintro e w1 ⟨rfl, hown, hb1⟩
  have Hb1 : Hid (Below w.heap.size w w1) := Hbm.out.trans (hb1.mono Hbm.out.size)
  clear hb1 Hbm
  go_wp2_with fail
  refine (zzgaps_row _ _ n0 n0 F T rf rt _ hn0 hown).mono ?_
  rintro e w2 ⟨v, B2, rfl, hown2, hb2⟩
  obtain ⟨G, hG⟩ : ∃ G, G = gapsG F T rt n0 0 rf := ⟨_, rfl⟩
  have hGl : G.length ≤ 65537 := by rw [hG]; have := gapsG_len F T rt n0 0 rf; omega
  rw [← hG] at hown2
  have HG : Hid (G = gapsG F T rt n0 0 rf) := hG
  obtain ⟨ao, cap, hv, hrow⟩ := own_form hown2
  subst hv
  obtain ⟨L, hL⟩ : ∃ L, L = G.length := ⟨_, rfl⟩
  rw [← hL] at hGl hrow
  have HL : Hid (L = G.length) := hL
  rw [← hL]
  have Hrow : Hid _ := hrow
  have Hw2 : Hid (Below w.heap.size w w2) := Hb1.out.trans (hb2.mono Hb1.out.size)
  have hs2 : w.heap.size ≤ w2.heap.size := Hw2.out.size
  clear hown hown2 hb2 hG hrow hL Hb1
  go_wp2
  go_loopw [13, 14] (fun b j wx => ∃ q : Nat, q ≤ L ∧ b = .bool (anyN (inG x G) q) ∧ j = .int .i64 q ∧ Below w2.heap.size w2 wx) (fun _ j _ => L - (intOf j).toNat)
  case atStart => exact ⟨0, Nat.zero_le _, rfl, rfl, Below.refl _ _⟩
  case round =>
    obtain ⟨q, hq, rfl, rfl, hbx⟩ := hrel
    obtain ⟨wo, rfl⟩ : ∃ wo : World, wo = wr := ⟨_, rfl⟩
    have Hbx : Hid (Below w2.heap.size w2 wo) := hbx
    have hsx : w2.heap.size ≤ wo.heap.size := hbx.size
    clear hbx
    by_cases hqL : q < L
    · obtain ⟨g, hao, hgl, hcell⟩ := Hrow.out (by omega)
      subst hao
      have hqG : q < G.length := by rw [← HL.out]; exact hqL
      obtain ⟨c0', c1'⟩ := rcells_get G q hqG
      obtain ⟨g1, g2, hgq⟩ : ∃ g1 g2, G[q] = (g1, g2) := ⟨_, _, rfl⟩
      have HIN : Hid (inG x G q = zin x g1 g2) := by
        show inG x G q = zin x g1 g2
        simp [inG, List.getD, hqG, hgq]
      rw [hgq] at c0' c1'
      have r0 : wo.cell? ⟨g, q * 2, none⟩ = some (.string g1) := (Hbx.out.cell (p := ⟨g, q * 2, none⟩) hgl).trans ((hcell (q * 2) (by omega)).trans c0')
      have r1 : wo.cell? ⟨g, q * 2 + 1, none⟩ = some (.string g2) := (Hbx.out.cell (p := ⟨g, q * 2 + 1, none⟩) hgl).trans ((hcell (q * 2 + 1) (by omega)).trans c1')
      have hgo : g < wo.heap.size := Nat.lt_of_lt_of_le hgl hsx
      clear c0' c1' hgq hcell Hrow
      have i1 : (0 : Int) ≤ (q : Int) := by omega
      have i2 : (q : Int) < (L : Int) := by omega
      rcases Bool.eq_false_or_eq_true (zin x g1 g2) with hz | hz
      · have HA : Hid (anyN (inG x G) (q + 1) = true) := by show anyN (inG x G) (q + 1) = true; rw [anyN, HIN.out, hz, Bool.or_true]
        go_wp2
        go_region_held3 (fun w' => w'.cell? ⟨g, q * 2, none⟩ = some (.string g1) ∧ w'.cell? ⟨g, q * 2 + 1, none⟩ = some (.string g2) ∧ g < w'.heap.size)
          (first
            | go_keep
            | (go_split_ands
               refine ⟨(hbb.cell (by simp; omega)).trans ?_, (hbb.cell (by simp; omega)).trans ?_, Nat.lt_of_lt_of_le ?_ hbb.size⟩ <;> assumption)
            | (go_split_ands
               refine ⟨(hba.cell (by simp; omega)).trans ?_, (hba.cell (by simp; omega)).trans ?_, Nat.lt_of_lt_of_le ?_ hba.size⟩ <;> assumption))
          (first
            | ((go_at_call 18; refine (from_any _ _ _).mono ?_; rintro e wa ⟨rfl, hba⟩))
            | ((go_at_call 19; refine (to_any _ _ _).mono ?_; rintro e wb ⟨rfl, hbb⟩))
            | ((go_at_call 17; refine (in_any _ _ _ _).mono ?_; rintro e wb ⟨rfl, rfl⟩)))
        have HX : Hid (Below w2.heap.size w2 wb) := Hbx.out.drew.trans ((hba.mono hsx).trans (hbb.mono (Nat.le_trans hsx hba.size)))
        clear hba hbb
        go_wp2
        go_roundw
        case rel => exact ⟨q + 1, by omega, by rw [HA.out], by go_num, HX.out⟩
        case measure => simp [intOf]; omega
      · have HA : Hid (anyN (inG x G) (q + 1) = anyN (inG x G) q) := by show anyN (inG x G) (q + 1) = anyN (inG x G) q; rw [anyN, HIN.out, hz, Bool.or_false]
        go_wp2
        go_region_held3 (fun w' => w'.cell? ⟨g, q * 2, none⟩ = some (.string g1) ∧ w'.cell? ⟨g, q * 2 + 1, none⟩ = some (.string g2) ∧ g < w'.heap.size)
          (first
            | go_keep
            | (go_split_ands
               refine ⟨(hbb.cell (by simp; omega)).trans ?_, (hbb.cell (by simp; omega)).trans ?_, Nat.lt_of_lt_of_le ?_ hbb.size⟩ <;> assumption)
            | (go_split_ands
               refine ⟨(hba.cell (by simp; omega)).trans ?_, (hba.cell (by simp; omega)).trans ?_, Nat.lt_of_lt_of_le ?_ hba.size⟩ <;> assumption))
          (first
            | ((go_at_call 18; refine (from_any _ _ _).mono ?_; rintro e wa ⟨rfl, hba⟩))
            | ((go_at_call 19; refine (to_any _ _ _).mono ?_; rintro e wb ⟨rfl, hbb⟩))
            | ((go_at_call 17; refine (in_any _ _ _ _).mono ?_; rintro e wb ⟨rfl, rfl⟩)))
        have HX : Hid (Below w2.heap.size w2 wb) := Hbx.out.drew.trans ((hba.mono hsx).trans (hbb.mono (Nat.le_trans hsx hba.size)))
        clear hba hbb
        go_wp2
        go_roundw
        case rel => exact ⟨q + 1, by omega, by rw [HA.out], by go_num, HX.out⟩
        case measure => simp [intOf]; omega
    · have HF : Hid (anyN (inG x G) q = (zin x rf rt && !anyN (fun i => zin x (F i) (T i)) n0)) := by
        have e : q = L := by omega
        show anyN (inG x G) q = _
        rw [e, HL.out, HG.out]
        exact member_law F T rf rt x n0 Hfit.out
      obtain ⟨b1, hb1⟩ : ∃ b1, b1 = anyN (inG x G) q := ⟨_, rfl⟩
      rw [← hb1]
      rw [← hb1] at HF
      clear hb1
      go_wp2_with fail
      refine (in_any _ _ _ _).mono ?_
      rintro e wo ⟨rfl, rfl⟩
      go_wp2
      go_loopw [15, 16] (fun b i wx => ∃ s : Nat, s ≤ n0 ∧ b = .bool (zin x rf rt && !anyN (fun i => zin x (F i) (T i)) s) ∧ i = .int .i64 s ∧ Below w2.heap.size w2 wx) (fun _ i _ => n0 - (intOf i).toNat)
      case atStart => exact ⟨0, Nat.zero_le _, by simp [anyN], rfl, Hbx.out⟩
      case round =>
        obtain ⟨s, hs, rfl, rfl, hby⟩ := hrel
        obtain ⟨wp, rfl⟩ : ∃ wp : World, wp = wr := ⟨_, rfl⟩
        have Hby : Hid (Below w2.heap.size w2 wp) := hby
        clear hby
        obtain ⟨b2, hb2⟩ : ∃ b2, b2 = (zin x rf rt && !anyN (fun i => zin x (F i) (T i)) s) := ⟨_, rfl⟩
        rw [← hb2]
        have HB2 : Hid (b2 = (zin x rf rt && !anyN (fun i => zin x (F i) (T i)) s)) := hb2
        clear hb2
        by_cases hsn : s < n0
        · obtain ⟨b0, o0, e0, l0, d0⟩ := h0.out.at s hsn
          obtain ⟨b3, o3, e3, l3, d1⟩ := h1.out.at s hsn
          subst e0
          subst e3
          have d0 : wp.cell? ⟨b0, o0 + s, none⟩ = some (.string (F s)) := (Hby.out.cell (p := ⟨b0, o0 + s, none⟩) (by exact Nat.lt_of_lt_of_le l0 hs2)).trans ((Hw2.out.cell (p := ⟨b0, o0 + s, none⟩) l0).trans d0)
          have d1 : wp.cell? ⟨b3, o3 + s, none⟩ = some (.string (T s)) := (Hby.out.cell (p := ⟨b3, o3 + s, none⟩) (by exact Nat.lt_of_lt_of_le l3 hs2)).trans ((Hw2.out.cell (p := ⟨b3, o3 + s, none⟩) l3).trans d1)
          clear h0 h1
          have i1 : (0 : Int) ≤ (s : Int) := by omega
          have i2 : (s : Int) < (n0 : Int) := by omega
          rcases Bool.eq_false_or_eq_true (zin x (F s) (T s)) with hz | hz
          · have HA : Hid (false = (zin x rf rt && !anyN (fun i => zin x (F i) (T i)) (s + 1))) := by show false = _; rw [anyN, hz, Bool.or_true]; simp
            go_wp2
            go_quiet ((go_at_call 17; exact Calls.quiet_of_same (in_any _ _ _ _)))
            rw [hz]
            go_wp2
            go_roundw
            case rel => exact ⟨s + 1, by omega, by rw [← HA.out], by go_num, below_drewN Hby.out _⟩
            case measure => simp [intOf]; omega
          · have HA : Hid (b2 = (zin x rf rt && !anyN (fun i => zin x (F i) (T i)) (s + 1))) := by show b2 = _; rw [HB2.out, anyN, hz, Bool.or_false]
            go_wp2
            go_quiet ((go_at_call 17; exact Calls.quiet_of_same (in_any _ _ _ _)))
            rw [hz]
            go_wp2
            go_roundw
            case rel => exact ⟨s + 1, by omega, by rw [← HA.out], by go_num, below_drewN Hby.out _⟩
            case measure => simp [intOf]; omega
        · have HEQ : Hid ((b1 == b2) = true) := by
            have e : s = n0 := by omega
            show (b1 == b2) = true
            rw [HB2.out, HF.out, e]
            simp
          go_wp2
          go_ret
          exact ⟨ret_bool HEQ.out, Hw2.out.trans (Hby.out.mono hs2)⟩

end Go.Proofs.Qxb6600215aMods
