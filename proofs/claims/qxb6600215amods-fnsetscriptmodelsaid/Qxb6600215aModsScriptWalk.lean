/-
  THE WALK OF FnSetScriptModel.
-/
import Derived.Test.Qxb6600215aModsBounds
import Derived.Test.Qxb6600215aModsHolderWalks
namespace Go.Proofs.Qxb6600215aMods
open Go.RowKit
attribute [local go_sem ↓] eq_tx
attribute [local go_sem] guard45

theorem ownsRow_below {w w' : World} {B base : Nat} {e : TypeId} {size : Nat} {v : Value} {n : Nat} {xs : List Value} (h : w.ownsRow base e size v n xs) (hb : Below B w w') (hlt : ∀ b, v.ownBlock = some b → b < B) : w'.ownsRow base e size v n xs := by
  refine ⟨h.1, ?_⟩
  rcases h.2 with hn | ⟨g, cap, cur, rfl, hg, hgg, rest⟩
  · exact .inl hn
  · refine .inr ⟨g, cap, cur, rfl, hg, ?_, rest⟩
    rw [hb.block g (hlt g rfl)]
    exact hgg

theorem script_pos (N : Nat → Int) (S : Nat → ByteArray) (M : Nat → Int) (n : Nat) (h : 0 < n) : 0 < (scr N S M n).length := by
  have := unseen_lt N S M 0 n h (fun p hp => by omega)
  omega

/-- None of the first q calls is of call i's transaction. -/
def Uns (N : Nat → Int) (S : Nat → ByteArray) (i q : Nat) : Prop := ∀ r, r < q → kk N S r ≠ kk N S i
theorem uns_succ {N : Nat → Int} {S : Nat → ByteArray} {i q : Nat} (h : Uns N S i q) (hne : kk N S q ≠ kk N S i) : Uns N S i (q + 1) := by
  intro r hr
  by_cases e : r = q
  · subst e; exact hne
  · exact h r (by omega)
/-- No call behind call q is of call i's transaction. -/
def Lat (N : Nat → Int) (S : Nat → ByteArray) (i n q : Nat) : Prop := ∀ r, q < r → r < n → kk N S r ≠ kk N S i
theorem lat_pred {N : Nat → Int} {S : Nat → ByteArray} {i n q : Nat} (h : Lat N S i n q) (hne : kk N S q ≠ kk N S i) : Lat N S i n (q - 1) := by
  intro r h1 h2
  by_cases e : r = q
  · subst e; exact hne
  · exact h r (by omega) h2
theorem script_facts (N : Nat → Int) (S : Nat → ByteArray) (M : Nat → Int) (i n J L : Nat) (hi : i < n) (hu : Uns N S i i) (hJ : J = (scr N S M i).length) (hL : L = (scr N S M n).length) :
    ∃ N1 S1 M1, J < L ∧ keyB N1 S1 (N i) (S i) = true ∧ (hcells (scr N S M n))[J * 3]? = some (.int .u64 N1) ∧ (hcells (scr N S M n))[J * 3 + 1]? = some (.string S1) ∧ (hcells (scr N S M n))[J * 3 + 2]? = some (.int .u8 M1) ∧
      ∀ qf, qf < n → kk N S qf = kk N S i → Lat N S i n qf → M1 = M qf := by
  subst hJ hL
  have hlt := unseen_lt N S M i n hi hu
  obtain ⟨h0, h1, h2⟩ := hcells_get (scr N S M n) _ hlt
  exact ⟨_, _, _, hlt, keyB_iff.2 (unseen_key N S M i n hi hu hlt), h0, h1, h2, fun qf a b c => unseen_mode N S M i n hi hu hlt qf a b c⟩
theorem kk_eq {N : Nat → Int} {S : Nat → ByteArray} {i q : Nat} (h1 : (N q == N i) = true) (h2 : ((S q).toList == (S i).toList) = true) : kk N S q = kk N S i := by
  unfold kk
  rw [beq_iff_eq.1 h1, beq_iff_eq.1 h2]
theorem kk_ne_n {N : Nat → Int} {S : Nat → ByteArray} {i q : Nat} (h1 : (N q == N i) = false) : kk N S q ≠ kk N S i := by
  intro e
  have e1 : N q = N i := congrArg Prod.fst e
  rw [e1] at h1
  simp at h1
theorem kk_ne_s {N : Nat → Int} {S : Nat → ByteArray} {i q : Nat} (h1 : ((S q).toList == (S i).toList) = false) : kk N S q ≠ kk N S i := by
  intro e
  have e1 : (S q).toList = (S i).toList := congrArg Prod.snd e
  rw [e1] at h1
  simp at h1

set_option maxRecDepth 100000 in
set_option maxHeartbeats 1000000 in
theorem script_main (n c0 c1 c2 b0 o0 b1 o1 b2 o2 : Nat) (N : Nat → Int) (S : Nat → ByteArray) (M : Nat → Int) (w : World) (hn : 0 < n) (hn' : n ≤ 4096)
    (l0 : b0 < w.heap.size) (l1 : b1 < w.heap.size) (l2 : b2 < w.heap.size)
    (hc0 : Hid (∀ i, i < n → w.cell? ⟨b0, o0 + i, none⟩ = some (.int .u64 (N i))))
    (hc1 : Hid (∀ i, i < n → w.cell? ⟨b1, o1 + i, none⟩ = some (.string (S i))))
    (hc2 : Hid (∀ i, i < n → w.cell? ⟨b2, o2 + i, none⟩ = some (.int .u8 (M i))))
    (hrow : StrRow w (some ⟨b1, o1, none⟩) n S) :
    Calls Trym.prog 5 #[.slice (some ⟨b0, o0, none⟩) n c0, .slice (some ⟨b1, o1, none⟩) n c1, .slice (some ⟨b2, o2, none⟩) n c2] w fun e w' => e = .returned (.bool true) ∧ Below w.heap.size w w' := by
  have t1 : decide ((4096 : Int) < (n : Int)) = false := by simp; omega
  have t2 : ((n : Int) != (n : Int)) = false := by simp
  go_enter Trym.func5, Trym.ntmps5
  go_wp2_with fail
  refine (bytesScript_any _ _ _ _ _ _ _ _ _ S _ hrow).mono ?_
  rintro e w ⟨⟨b, rfl⟩, rfl⟩
  cases b
  · go_wp2
    go_ret
    exact ⟨rfl, Below.refl _ _⟩
  go_wp2_with fail
  refine (addStrs_any _ _ _ _ S _ hrow).mono ?_
  rintro e w ⟨⟨r, rfl⟩, rfl⟩
  by_cases hr : 1048576 < r
  · go_wp2
    go_ret
    exact ⟨rfl, Below.refl _ _⟩
  have t3 : decide (1048576 < r) = false := by simpa using hr
  clear hr
  go_wp2
  go_loopw [10] (fun i wr => ∃ k : Nat, ∃ v, k ≤ n ∧ i = .int .i64 k ∧ wr.heap[w.heap.size]? = some (.cells #[v] 40 (0, 0)) ∧
      wr.ownsRow w.heap.size 49 3 v (scr N S M k).length (hcells (scr N S M k)) ∧ Below w.heap.size w wr) (fun i _ => n - (intOf i).toNat)
  case atStart => exact ⟨0, _, Nat.zero_le _, rfl, heap_alloc_new _ _, World.ownsRow_nil _ _ _ _, (Below.refl _ _).alloc (Nat.le_refl _) _⟩
  case round =>
    obtain ⟨k, v, hk, rfl, hvar, hown, hbel⟩ := hrel
    by_cases hkn : k < n
    · have d0 : wr.cell? ⟨b0, o0 + k, none⟩ = some (.int .u64 (N k)) := (hbel.cell (p := ⟨b0, o0 + k, none⟩) l0).trans (hc0.out k hkn)
      have d1 : wr.cell? ⟨b1, o1 + k, none⟩ = some (.string (S k)) := (hbel.cell (p := ⟨b1, o1 + k, none⟩) l1).trans (hc1.out k hkn)
      have d2 : wr.cell? ⟨b2, o2 + k, none⟩ = some (.int .u8 (M k)) := (hbel.cell (p := ⟨b2, o2 + k, none⟩) l2).trans (hc2.out k hkn)
      have i1 : (0 : Int) ≤ (k : Int) := by omega
      have i2 : (k : Int) < (n : Int) := by omega
      have hl := length_scr_le N S M k
      have Hvar : Hid (wr.heap[w.heap.size]? = some (.cells #[v] 40 (0, 0))) := hvar
      have Hown : Hid (wr.ownsRow w.heap.size 49 3 v (scr N S M k).length (hcells (scr N S M k))) := hown
      have Hbel : Hid (Below w.heap.size w wr) := hbel
      clear hvar hown hbel
      go_wp2
      go_region_held3 (fun w' => w'.cell? ⟨b0, o0 + k, none⟩ = some (.int .u64 (N k)) ∧ w'.cell? ⟨b1, o1 + k, none⟩ = some (.string (S k)) ∧ w'.cell? ⟨b2, o2 + k, none⟩ = some (.int .u8 (M k)))
        (first
          | go_keep
          | (refine ⟨(hb1.cell (p := ⟨b0, o0 + k, none⟩) l0).trans ?_, (hb1.cell (p := ⟨b1, o1 + k, none⟩) l1).trans ?_, (hb1.cell (p := ⟨b2, o2 + k, none⟩) l2).trans ?_⟩ <;> assumption))
        ((go_at_call 23; refine (zzset_any w.heap.size w.heap.size v (scr N S M k) (N k) (S k) (M k) wr.drew (Nat.le_refl _) (by exact Hvar.out) (by exact Hown.out) (by omega)).mono ?_; rintro e w1 ⟨rfl, v1, hv1, hown1, hb1⟩))
      go_wp2
      go_roundw
      case rel => exact ⟨k + 1, v1, by omega, by go_num, hv1, hown1, Hbel.out.drew.trans hb1⟩
      case measure => simp [intOf]; omega
    · go_wp2
      have hkn' : k = n := by omega
      rw [hkn'] at hown
      clear hkn' hkn
      obtain ⟨L, hL⟩ : ∃ L, L = (scr N S M n).length := ⟨_, rfl⟩
      have hL1 : 0 < L := by rw [hL]; exact script_pos N S M n hn
      have hL2 : L ≤ 4096 := by have := length_scr_le N S M n; omega
      rw [← hL] at hown
      obtain ⟨g, cap, hv, hgB, hgl⟩ := hown.form hL1
      subst hv
      have HL : Hid (L = (scr N S M n).length) := hL
      clear hL
      go_loopw [11, 12] (fun j i wx => ∃ k2 : Nat, k2 ≤ n ∧ j = .int .i64 ((scr N S M k2).length : Nat) ∧ i = .int .i64 k2 ∧ wx.heap[w.heap.size]? = some (.cells #[.slice (some ⟨g, 0, none⟩) L cap] 40 (0, 0)) ∧
          wx.ownsRow w.heap.size 49 3 (.slice (some ⟨g, 0, none⟩) L cap) L (hcells (scr N S M n)) ∧ Below w.heap.size w wx) (fun _ i _ => n - (intOf i).toNat)
      case atStart => exact ⟨0, Nat.zero_le _, rfl, rfl, hvar, hown, hbel⟩
      case round =>
        clear hvar hown hbel
        obtain ⟨k2, hk2, rfl, rfl, hvar, hown, hbel⟩ := hrel
        obtain ⟨wo, rfl⟩ : ∃ wo : World, wo = wr := ⟨_, rfl⟩
        obtain ⟨J, hJ⟩ : ∃ J, J = (scr N S M k2).length := ⟨_, rfl⟩
        rw [← hJ]
        have HJ : Hid (J = (scr N S M k2).length) := hJ
        have hJ4 : J ≤ 4096 := by have := length_scr_le N S M k2; omega
        clear hJ
        have cv := cell_of_one hvar
        have Hvar : Hid (wo.heap[w.heap.size]? = some (.cells #[.slice (some ⟨g, 0, none⟩) L cap] 40 (0, 0))) := hvar
        have Hown : Hid (wo.ownsRow w.heap.size 49 3 (.slice (some ⟨g, 0, none⟩) L cap) L (hcells (scr N S M n))) := hown
        have Hbel : Hid (Below w.heap.size w wo) := hbel
        have hsz : w.heap.size < wo.heap.size := lt_of_block hvar
        clear hvar hown hbel
        by_cases hkn2 : k2 < n
        · have d0 : wo.cell? ⟨b0, o0 + k2, none⟩ = some (.int .u64 (N k2)) := (Hbel.out.cell (p := ⟨b0, o0 + k2, none⟩) l0).trans (hc0.out k2 hkn2)
          have d1 : wo.cell? ⟨b1, o1 + k2, none⟩ = some (.string (S k2)) := (Hbel.out.cell (p := ⟨b1, o1 + k2, none⟩) l1).trans (hc1.out k2 hkn2)
          have d2 : wo.cell? ⟨b2, o2 + k2, none⟩ = some (.int .u8 (M k2)) := (Hbel.out.cell (p := ⟨b2, o2 + k2, none⟩) l2).trans (hc2.out k2 hkn2)
          have i1 : (0 : Int) ≤ (k2 : Int) := by omega
          have i2 : (k2 : Int) < (n : Int) := by omega
          go_wp2
          go_loopw [13, 14] (fun sn p wi => ∃ q nq : Nat, q ≤ k2 ∧ sn = .bool false ∧ p = .int .i64 q ∧ Uns N S k2 q ∧ wi = wo.drewN nq) (fun _ p _ => k2 - (intOf p).toNat)
          case atStart => exact ⟨0, 0, Nat.zero_le _, rfl, rfl, fun r hr => by omega, rfl⟩
          case round =>
            obtain ⟨q, nq, hq, rfl, rfl, huns, rfl⟩ := hrel
            by_cases hqk : q < k2
            · have e0 : wo.cell? ⟨b0, o0 + q, none⟩ = some (.int .u64 (N q)) := (Hbel.out.cell (p := ⟨b0, o0 + q, none⟩) l0).trans (hc0.out q (by omega))
              have e1 : wo.cell? ⟨b1, o1 + q, none⟩ = some (.string (S q)) := (Hbel.out.cell (p := ⟨b1, o1 + q, none⟩) l1).trans (hc1.out q (by omega))
              have j1 : (0 : Int) ≤ (q : Int) := by omega
              have j2 : (q : Int) < (n : Int) := by omega
              by_cases hN : (N q == N k2) = true
              · by_cases hS : ((S q).toList == (S k2).toList) = true
                · go_wp2
                  go_quiet (fail)
                  go_wp2
                  go_roundw
                  case rel => exact ⟨k2 + 1, by omega, by rw [length_seen N S M k2 ⟨q, hqk, kk_eq hN hS⟩, HJ.out], by go_num, Hvar.out, Hown.out, below_drewN Hbel.out _⟩
                  case measure => simp [intOf]; omega
                · have hS : ((S q).toList == (S k2).toList) = false := by simpa using hS
                  go_wp2
                  go_quiet (fail)
                  go_wp2
                  go_roundw
                  case rel => exact ⟨q + 1, _, by omega, rfl, by go_num, uns_succ huns (kk_ne_s hS), rfl⟩
                  case measure => simp [intOf]; omega
              · have hN : (N q == N k2) = false := by simpa using hN
                go_wp2
                go_quiet (fail)
                go_wp2
                go_roundw
                case rel => exact ⟨q + 1, _, by omega, rfl, by go_num, uns_succ huns (kk_ne_n hN), rfl⟩
                case measure => simp [intOf]; omega
            · go_wp2
              have hqe : q = k2 := by omega
              rw [hqe] at huns
              clear hqe
              obtain ⟨N1, S1, M1, hJL, hkB, g0, g1, g2, hmode⟩ := script_facts N S M k2 n J L hkn2 huns HJ.out HL.out
              have r0 : wo.cell? ⟨g, J * 3, none⟩ = some (.int .u64 N1) := (Hown.out.cellAt (J * 3) (by omega)).trans g0
              have r1 : wo.cell? ⟨g, J * 3 + 1, none⟩ = some (.string S1) := (Hown.out.cellAt (J * 3 + 1) (by omega)).trans g1
              have r2 : wo.cell? ⟨g, J * 3 + 2, none⟩ = some (.int .u8 M1) := (Hown.out.cellAt (J * 3 + 2) (by omega)).trans g2
              have hgwo : g < wo.heap.size := World.block_lt_of_cell? wo _ r0
              have Hmode : Hid (∀ qf, qf < n → kk N S qf = kk N S k2 → Lat N S k2 n qf → M1 = M qf) := hmode
              have Huns : Hid (Uns N S k2 k2) := huns
              clear g0 g1 g2 hmode huns hq hqk
              go_loopw [15, 16] (fun la qv wi => ∃ qq nr : Nat, k2 ≤ qq ∧ qq < n ∧ la = .int .u8 (M k2) ∧ qv = .int .i64 qq ∧ Lat N S k2 n qq ∧ wi = wo.drewN nr) (fun _ qv _ => (intOf qv).toNat)
              case atStart => exact ⟨n - 1, _, by omega, by omega, rfl, by go_num, fun r h1 h2 => by omega, rfl⟩
              case round =>
                obtain ⟨qq, nr, hq1, hq2, rfl, rfl, hlat, rfl⟩ := hrel
                by_cases hqk4 : k2 < qq
                · have e0 : wo.cell? ⟨b0, o0 + qq, none⟩ = some (.int .u64 (N qq)) := (Hbel.out.cell (p := ⟨b0, o0 + qq, none⟩) l0).trans (hc0.out qq (by omega))
                  have e1 : wo.cell? ⟨b1, o1 + qq, none⟩ = some (.string (S qq)) := (Hbel.out.cell (p := ⟨b1, o1 + qq, none⟩) l1).trans (hc1.out qq (by omega))
                  have e2 : wo.cell? ⟨b2, o2 + qq, none⟩ = some (.int .u8 (M qq)) := (Hbel.out.cell (p := ⟨b2, o2 + qq, none⟩) l2).trans (hc2.out qq (by omega))
                  have j1 : (0 : Int) ≤ (qq : Int) := by omega
                  have j2 : (qq : Int) < (n : Int) := by omega
                  by_cases hN : (N qq == N k2) = true
                  · by_cases hS : ((S qq).toList == (S k2).toList) = true
                    · go_wp2
                      go_quiet (fail)
                      have hM : M1 = M qq := Hmode.out qq hq2 (kk_eq hN hS) hlat
                      rw [← hM] at e2
                      clear hM hN hS e0 e1 hlat
                      go_wp2
                      generalize hwz : wo.drewN _ = wz
                      have z0 : wz.cell? ⟨b0, o0 + k2, none⟩ = some (.int .u64 (N k2)) := by rw [← hwz]; exact d0
                      have z1 : wz.cell? ⟨b1, o1 + k2, none⟩ = some (.string (S k2)) := by rw [← hwz]; exact d1
                      have zv : wz.cell? ⟨w.heap.size, 0, none⟩ = some (.slice (some ⟨g, 0, none⟩) L cap) := by rw [← hwz]; exact cv
                      have y0 : wz.cell? ⟨g, J * 3, none⟩ = some (.int .u64 N1) := by rw [← hwz]; exact r0
                      have y1 : wz.cell? ⟨g, J * 3 + 1, none⟩ = some (.string S1) := by rw [← hwz]; exact r1
                      have y2 : wz.cell? ⟨g, J * 3 + 2, none⟩ = some (.int .u8 M1) := by rw [← hwz]; exact r2
                      have Zvar : Hid (wz.heap[w.heap.size]? = some (.cells #[.slice (some ⟨g, 0, none⟩) L cap] 40 (0, 0))) := by rw [← hwz]; exact Hvar
                      have Zown : Hid (wz.ownsRow w.heap.size 49 3 (.slice (some ⟨g, 0, none⟩) L cap) L (hcells (scr N S M n))) := by rw [← hwz]; exact Hown
                      have Zbel : Hid (Below w.heap.size w wz) := by rw [← hwz]; exact below_drewN Hbel.out _
                      have s0 : b0 < wz.heap.size := World.block_lt_of_cell? wz _ z0
                      have s1 : b1 < wz.heap.size := World.block_lt_of_cell? wz _ z1
                      have s2 : g < wz.heap.size := World.block_lt_of_cell? wz _ y0
                      have s3 : w.heap.size < wz.heap.size := World.block_lt_of_cell? wz _ zv
                      clear hwz d0 d1 d2 cv r0 r1 r2 Hvar Hown Hbel
                      go_big_region
                      go_wp2
                      generalize hwq : (wz.alloc _).drew = wq
                      have zb : Below wz.heap.size wz wq := by rw [← hwq]; exact ((Below.refl _ _).alloc (Nat.le_refl _) _).drew
                      have p0 : wq.cell? ⟨wz.heap.size, 0, none⟩ = some (.int .u64 (N k2)) := by rw [← hwq]; simp
                      have p1 : wq.cell? ⟨wz.heap.size, 1, none⟩ = some (.string (S k2)) := by rw [← hwq]; simp
                      have pv : wq.cell? ⟨w.heap.size, 0, none⟩ = some (.slice (some ⟨g, 0, none⟩) L cap) := (zb.cell (p := ⟨w.heap.size, 0, none⟩) s3).trans zv
                      have x0 : wq.cell? ⟨g, J * 3, none⟩ = some (.int .u64 N1) := (zb.cell (p := ⟨g, J * 3, none⟩) s2).trans y0
                      have x1 : wq.cell? ⟨g, J * 3 + 1, none⟩ = some (.string S1) := (zb.cell (p := ⟨g, J * 3 + 1, none⟩) s2).trans y1
                      have x2 : wq.cell? ⟨g, J * 3 + 2, none⟩ = some (.int .u8 M1) := (zb.cell (p := ⟨g, J * 3 + 2, none⟩) s2).trans y2
                      have sq : wz.heap.size < wq.heap.size := World.block_lt_of_cell? wq _ p0
                      have Zb : Hid (Below wz.heap.size wz wq) := zb
                      clear hwq zv y0 y1 y2 z0 z1 zb
                      have j5 : (0 : Int) ≤ (J : Int) := by omega
                      have j6 : (J : Int) < (L : Int) := by omega
                      go_region_held3 (fun w' => w'.cell? ⟨w.heap.size, 0, none⟩ = some (.slice (some ⟨g, 0, none⟩) L cap) ∧ w'.cell? ⟨g, J * 3, none⟩ = some (.int .u64 N1) ∧ w'.cell? ⟨g, J * 3 + 1, none⟩ = some (.string S1) ∧ w'.cell? ⟨g, J * 3 + 2, none⟩ = some (.int .u8 M1) ∧ w'.cell? ⟨wz.heap.size, 0, none⟩ = some (.int .u64 (N k2)) ∧ w'.cell? ⟨wz.heap.size, 1, none⟩ = some (.string (S k2)))
                        (first
                          | go_keep
                          | (go_split_ands
                             refine ⟨(hb1.cell (by simp; omega)).trans ?_, (hb1.cell (by simp; omega)).trans ?_, (hb1.cell (by simp; omega)).trans ?_, (hb1.cell (by simp; omega)).trans ?_, (hb1.cell (by simp; omega)).trans ?_, (hb1.cell (by simp; omega)).trans ?_⟩ <;> assumption))
                        ((go_at_call 24; refine (holderTx_any _ _ _ _).mono ?_; rintro e w1 ⟨rfl, hb1⟩))
                      go_wp2_with fail
                      refine (holderMode_any _ _ _ _).mono ?_
                      rintro e w2 ⟨rfl, hb2⟩
                      have hZ : Below wz.heap.size wz w2 := Zb.out.drew.trans ((hb1.mono (Nat.le_of_lt sq)).trans (hb2.mono (Nat.le_trans (Nat.le_of_lt sq) hb1.size)))
                      have HZ : Hid (Below wz.heap.size wz w2) := hZ
                      clear hZ hb1 hb2
                      go_wp2
                      go_roundw
                      case rel => exact ⟨k2 + 1, by omega, by rw [length_unseen N S M k2 Huns.out, ← HJ.out]; go_num, by go_num, (HZ.out.block _ s3).trans Zvar.out, ownsRow_below Zown.out HZ.out (fun b hb => by simp [Value.ownBlock] at hb; omega), Zbel.out.trans (HZ.out.mono (Nat.le_of_lt s3))⟩
                      case measure => simp [intOf]; omega
                    · have hS : ((S qq).toList == (S k2).toList) = false := by simpa using hS
                      go_wp2
                      go_quiet (fail)
                      go_wp2
                      go_roundw
                      case rel => exact ⟨qq - 1, _, by omega, by omega, rfl, by go_num, lat_pred hlat (kk_ne_s hS), rfl⟩
                      case measure => simp [intOf]; omega
                  · have hN : (N qq == N k2) = false := by simpa using hN
                    go_wp2
                    go_quiet (fail)
                    go_wp2
                    go_roundw
                    case rel => exact ⟨qq - 1, _, by omega, by omega, rfl, by go_num, lat_pred hlat (kk_ne_n hN), rfl⟩
                    case measure => simp [intOf]; omega
                · go_wp2
                  have hqe : qq = k2 := by omega
                  rw [hqe] at hlat
                  have hM : (M1 != M k2) = false := by simpa using Hmode.out k2 hkn2 rfl hlat
                  clear hqe hlat
                  generalize hwz : wo.drewN _ = wz
                  have z0 : wz.cell? ⟨b0, o0 + k2, none⟩ = some (.int .u64 (N k2)) := by rw [← hwz]; exact d0
                  have z1 : wz.cell? ⟨b1, o1 + k2, none⟩ = some (.string (S k2)) := by rw [← hwz]; exact d1
                  have zv : wz.cell? ⟨w.heap.size, 0, none⟩ = some (.slice (some ⟨g, 0, none⟩) L cap) := by rw [← hwz]; exact cv
                  have y0 : wz.cell? ⟨g, J * 3, none⟩ = some (.int .u64 N1) := by rw [← hwz]; exact r0
                  have y1 : wz.cell? ⟨g, J * 3 + 1, none⟩ = some (.string S1) := by rw [← hwz]; exact r1
                  have y2 : wz.cell? ⟨g, J * 3 + 2, none⟩ = some (.int .u8 M1) := by rw [← hwz]; exact r2
                  have Zvar : Hid (wz.heap[w.heap.size]? = some (.cells #[.slice (some ⟨g, 0, none⟩) L cap] 40 (0, 0))) := by rw [← hwz]; exact Hvar
                  have Zown : Hid (wz.ownsRow w.heap.size 49 3 (.slice (some ⟨g, 0, none⟩) L cap) L (hcells (scr N S M n))) := by rw [← hwz]; exact Hown
                  have Zbel : Hid (Below w.heap.size w wz) := by rw [← hwz]; exact below_drewN Hbel.out _
                  have s0 : b0 < wz.heap.size := World.block_lt_of_cell? wz _ z0
                  have s1 : b1 < wz.heap.size := World.block_lt_of_cell? wz _ z1
                  have s2 : g < wz.heap.size := World.block_lt_of_cell? wz _ y0
                  have s3 : w.heap.size < wz.heap.size := World.block_lt_of_cell? wz _ zv
                  clear hwz d0 d1 d2 cv r0 r1 r2 Hvar Hown Hbel
                  go_big_region
                  go_wp2
                  generalize hwq : (wz.alloc _).drew = wq
                  have zb : Below wz.heap.size wz wq := by rw [← hwq]; exact ((Below.refl _ _).alloc (Nat.le_refl _) _).drew
                  have p0 : wq.cell? ⟨wz.heap.size, 0, none⟩ = some (.int .u64 (N k2)) := by rw [← hwq]; simp
                  have p1 : wq.cell? ⟨wz.heap.size, 1, none⟩ = some (.string (S k2)) := by rw [← hwq]; simp
                  have pv : wq.cell? ⟨w.heap.size, 0, none⟩ = some (.slice (some ⟨g, 0, none⟩) L cap) := (zb.cell (p := ⟨w.heap.size, 0, none⟩) s3).trans zv
                  have x0 : wq.cell? ⟨g, J * 3, none⟩ = some (.int .u64 N1) := (zb.cell (p := ⟨g, J * 3, none⟩) s2).trans y0
                  have x1 : wq.cell? ⟨g, J * 3 + 1, none⟩ = some (.string S1) := (zb.cell (p := ⟨g, J * 3 + 1, none⟩) s2).trans y1
                  have x2 : wq.cell? ⟨g, J * 3 + 2, none⟩ = some (.int .u8 M1) := (zb.cell (p := ⟨g, J * 3 + 2, none⟩) s2).trans y2
                  have sq : wz.heap.size < wq.heap.size := World.block_lt_of_cell? wq _ p0
                  have Zb : Hid (Below wz.heap.size wz wq) := zb
                  clear hwq zv y0 y1 y2 z0 z1 zb
                  have j5 : (0 : Int) ≤ (J : Int) := by omega
                  have j6 : (J : Int) < (L : Int) := by omega
                  go_region_held3 (fun w' => w'.cell? ⟨w.heap.size, 0, none⟩ = some (.slice (some ⟨g, 0, none⟩) L cap) ∧ w'.cell? ⟨g, J * 3, none⟩ = some (.int .u64 N1) ∧ w'.cell? ⟨g, J * 3 + 1, none⟩ = some (.string S1) ∧ w'.cell? ⟨g, J * 3 + 2, none⟩ = some (.int .u8 M1) ∧ w'.cell? ⟨wz.heap.size, 0, none⟩ = some (.int .u64 (N k2)) ∧ w'.cell? ⟨wz.heap.size, 1, none⟩ = some (.string (S k2)))
                    (first
                      | go_keep
                      | (go_split_ands
                         refine ⟨(hb1.cell (by simp; omega)).trans ?_, (hb1.cell (by simp; omega)).trans ?_, (hb1.cell (by simp; omega)).trans ?_, (hb1.cell (by simp; omega)).trans ?_, (hb1.cell (by simp; omega)).trans ?_, (hb1.cell (by simp; omega)).trans ?_⟩ <;> assumption))
                    ((go_at_call 24; refine (holderTx_any _ _ _ _).mono ?_; rintro e w1 ⟨rfl, hb1⟩))
                  go_wp2_with fail
                  refine (holderMode_any _ _ _ _).mono ?_
                  rintro e w2 ⟨rfl, hb2⟩
                  have hZ : Below wz.heap.size wz w2 := Zb.out.drew.trans ((hb1.mono (Nat.le_of_lt sq)).trans (hb2.mono (Nat.le_trans (Nat.le_of_lt sq) hb1.size)))
                  have HZ : Hid (Below wz.heap.size wz w2) := hZ
                  clear hZ hb1 hb2
                  go_wp2
                  go_roundw
                  case rel => exact ⟨k2 + 1, by omega, by rw [length_unseen N S M k2 Huns.out, ← HJ.out]; go_num, by go_num, (HZ.out.block _ s3).trans Zvar.out, ownsRow_below Zown.out HZ.out (fun b hb => by simp [Value.ownBlock] at hb; omega), Zbel.out.trans (HZ.out.mono (Nat.le_of_lt s3))⟩
                  case measure => simp [intOf]; omega
        · have hJL : ((J : Int) == (L : Int)) = true := by
            have e : k2 = n := by omega
            have e2 : J = L := by rw [HJ.out, HL.out, e]
            simp [e2]
          go_wp2
          go_ret
          exact ⟨rfl, Hbel.out⟩

end Go.Proofs.Qxb6600215aMods
