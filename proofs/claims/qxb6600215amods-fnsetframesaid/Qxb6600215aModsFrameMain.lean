/-
  THE WALK OF FnSetFrame.
-/
import Derived.Test.Qxb6600215aModsFrameWalks
namespace Go.Proofs.Qxb6600215aMods
open Go.RowKit
attribute [local go_sem ↓] eq_tx
attribute [local go_sem] guard45

set_option maxRecDepth 100000 in
set_option maxHeartbeats 1000000 in
theorem bytesFrame_any (a0 : Option Addr) (len0 cap0 : Nat) (ao : Option Addr) (len cap : Nat) (a2 : Option Addr) (len2 cap2 : Nat) (tn : Int) (ts : ByteArray) (m : Int) (pn : Int) (ps : ByteArray) (S : Nat → ByteArray) (w : World) (h : StrRow w ao len S) :
    Calls Trym.prog 26 #[.slice a0 len0 cap0, .slice ao len cap, .slice a2 len2 cap2, .int .u64 tn, .string ts, .int .u8 m, .int .u64 pn, .string ps] w fun e w' => SomeBool e ∧ w' = w := by
  obtain ⟨hm, h⟩ := h
  by_cases h0 : (1048576 : Int) < (len0 : Int)
  · go_enter Trym.func26, Trym.ntmps26
    go_wp2
    go_ret
    exact ⟨⟨_, rfl⟩, rfl⟩
  by_cases h1 : (1048576 : Int) < (len : Int)
  · go_enter Trym.func26, Trym.ntmps26
    go_wp2
    go_ret
    exact ⟨⟨_, rfl⟩, rfl⟩
  by_cases h2 : (1048576 : Int) < (len0 : Int) + (len : Int)
  · go_enter Trym.func26, Trym.ntmps26
    go_wp2
    go_ret
    exact ⟨⟨_, rfl⟩, rfl⟩
  rcases h with rfl | ⟨b, off, rfl, hb, hc⟩
  · go_enter Trym.func26, Trym.ntmps26
    go_wp2
    go_loop [17, 18] (fun t i => ∃ (n : Int), t = .int .i64 n ∧ i = .int .i64 0) (fun _ _ => 0)
    case atStart => exact ⟨_, rfl, rfl⟩
    case round =>
      obtain ⟨n, rfl, rfl⟩ := hrel
      go_wp2
      all_goals go_ret
      all_goals exact ⟨⟨_, rfl⟩, rfl⟩
  · go_enter Trym.func26, Trym.ntmps26
    go_wp2
    go_loop [17, 18] (fun t i => ∃ (n : Int) (k : Nat), k ≤ len ∧ t = .int .i64 n ∧ i = .int .i64 k) (fun _ i => len - (intOf i).toNat)
    case atStart => exact ⟨_, 0, Nat.zero_le _, rfl, rfl⟩
    case round =>
      obtain ⟨n, k, hk, rfl, rfl⟩ := hrel
      by_cases hlt : k < len
      · have hck := (hc k hlt).1
        clear hc
        by_cases h3 : (1048576 : Int) < ((S k).size : Int)
        · go_wp2
          go_ret
          exact ⟨⟨_, rfl⟩, rfl⟩
        · go_wp2
          · go_ret
            exact ⟨⟨_, rfl⟩, rfl⟩
          · go_round
            case rel => exact ⟨_, k + 1, by omega, rfl, by go_num⟩
            case measure => simp [intOf]; omega
      · go_wp2
        all_goals go_ret
        all_goals exact ⟨⟨_, rfl⟩, rfl⟩

/-- What lies in memory while FnSetFrame runs: the holders' variable (block q), the row that it leads to, and the two transactions (the two blocks behind it). -/
structure Laid (w : World) (q : Nat) (v : Value) (h : List Hd) (tn : Int) (ts : ByteArray) (pn : Int) (ps : ByteArray) (x : World) : Prop where
  var : x.heap[q]? = some (.cells #[v] 40 (0, 0))
  own : x.ownsRow w.heap.size 49 3 v h.length (hcells h)
  t0 : x.cell? ⟨q + 1, 0, none⟩ = some (.int .u64 tn)
  t1 : x.cell? ⟨q + 1, 1, none⟩ = some (.string ts)
  p0 : x.cell? ⟨q + 1 + 1, 0, none⟩ = some (.int .u64 pn)
  p1 : x.cell? ⟨q + 1 + 1, 1, none⟩ = some (.string ps)
  bel : Below w.heap.size w x
  sz : w.heap.size ≤ q

theorem Laid.keep {w : World} {q : Nat} {v : Value} {h : List Hd} {tn : Int} {ts : ByteArray} {pn : Int} {ps : ByteArray} {x y : World} (l : Laid w q v h tn ts pn ps x) (hb : Below x.heap.size x y) : Laid w q v h tn ts pn ps y := by
  have b1 := World.block_lt_of_cell? x _ l.t0
  have b2 := World.block_lt_of_cell? x _ l.p0
  have b3 := lt_of_block l.var
  refine ⟨(hb.block q b3).trans l.var, ownsRow_below l.own hb (fun b e => (l.own.lt b e).2), (hb.cell (p := ⟨q + 1, 0, none⟩) b1).trans l.t0, (hb.cell (p := ⟨q + 1, 1, none⟩) b1).trans l.t1, (hb.cell (p := ⟨q + 1 + 1, 0, none⟩) b2).trans l.p0, (hb.cell (p := ⟨q + 1 + 1, 1, none⟩) b2).trans l.p1, l.bel.trans (hb.mono l.bel.size), l.sz⟩

theorem Laid.set {w : World} {q : Nat} {v : Value} {h : List Hd} {tn : Int} {ts : ByteArray} {pn : Int} {ps : ByteArray} {x y : World} {v' : Value} {h' : List Hd} (l : Laid w q v h tn ts pn ps x) (hne : ∀ b, v.ownBlock = some b → b < q)
    (a1 : y.heap[q]? = some (.cells #[v'] 40 (0, 0))) (a2 : y.ownsRow w.heap.size 49 3 v' h'.length (hcells h')) (a3 : Below w.heap.size x y) (a4 : Others q v x y) : Laid w q v' h' tn ts pn ps y := by
  have b1 := World.block_lt_of_cell? x _ l.t0
  have b2 := World.block_lt_of_cell? x _ l.p0
  have e1 : y.heap[q + 1]? = x.heap[q + 1]? := a4 (q + 1) b1 (by omega) (fun e => by have := hne _ e; omega)
  have e2 : y.heap[q + 1 + 1]? = x.heap[q + 1 + 1]? := a4 (q + 1 + 1) b2 (by omega) (fun e => by have := hne _ e; omega)
  exact ⟨a1, a2, (World.cell?_of_block (a := ⟨q + 1, 0, none⟩) e1).trans l.t0, (World.cell?_of_block (a := ⟨q + 1, 1, none⟩) e1).trans l.t1, (World.cell?_of_block (a := ⟨q + 1 + 1, 0, none⟩) e2).trans l.p0, (World.cell?_of_block (a := ⟨q + 1 + 1, 1, none⟩) e2).trans l.p1, l.bel.trans a3, l.sz⟩

theorem setL_pos (h : List Hd) (n : Int) (s : ByteArray) (m : Int) : 0 < (setL h n s m).length := by
  cases h with
  | nil => simp [setL]
  | cons x t => rw [setL]; split <;> simp

theorem Laid.start {w w1 : World} {q : Nat} (hq : w1.heap.size = q) {v : Value} {h : List Hd} {tn : Int} {ts : ByteArray} {pn : Int} {ps : ByteArray} (hown : w1.ownsRow w.heap.size 49 3 v h.length (hcells h)) (hbel : Below w.heap.size w w1) :
    Laid w q v h tn ts pn ps (((w1.alloc (.cells #[v] 40)).alloc (.cells #[.int .u64 tn, .string ts] 45)).alloc (.cells #[.int .u64 pn, .string ps] 45)) := by
  subst hq
  have hsz := hbel.size
  refine ⟨?_, ((hown.alloc _).alloc _).alloc _, ?_, ?_, ?_, ?_, ((hbel.alloc hsz _).alloc (by simp; omega) _).alloc (by simp; omega) _, hsz⟩
  · rw [Below.heap_alloc _ _ _ (by simp; omega), Below.heap_alloc _ _ _ (by simp)]
    exact heap_alloc_new _ _
  · go_simp
  · go_simp
  · go_simp
  · go_simp

set_option maxRecDepth 100000 in
set_option maxHeartbeats 1000000 in
theorem frame_main (a0 : Option Addr) (c0 : Nat) (a1 : Option Addr) (c1 : Nat) (a2 : Option Addr) (n c2 : Nat) (tn : Int) (ts : ByteArray) (m : Int) (pn : Int) (ps : ByteArray) (N : Nat → Int) (S : Nat → ByteArray) (M : Nat → Int) (w : World) (hn' : n ≤ 65536)
    (h0 : IntRow .u64 w a0 n N) (h1 : StrRow w a1 n S) (h2 : IntRow .u8 w a2 n M) :
    Calls Trym.prog 6 #[.slice a0 n c0, .slice a1 n c1, .slice a2 n c2, .int .u64 tn, .string ts, .int .u8 m, .int .u64 pn, .string ps] w fun e w' => e = .returned (.bool true) ∧ Below w.heap.size w w' := by
  have t1 : decide ((65536 : Int) < (n : Int)) = false := by simp; omega
  have t2 : ((n : Int) != (n : Int)) = false := by simp
  go_enter Trym.func6, Trym.ntmps6
  go_wp2_with fail
  refine (bytesFrame_any _ _ _ _ _ _ _ _ _ _ _ _ _ _ S _ h1).mono ?_
  rintro e w ⟨⟨b, rfl⟩, rfl⟩
  cases b
  · go_wp2
    go_ret
    exact ⟨rfl, Below.refl _ _⟩
  go_wp2_with fail
  refine (addStrs_any _ _ _ _ S _ h1).mono ?_
  rintro e w ⟨⟨r1, rfl⟩, rfl⟩
  go_wp2_with fail
  refine (addStr_any _ _ _).mono ?_
  rintro e w ⟨⟨r2, rfl⟩, rfl⟩
  go_wp2_with fail
  refine (addStr_any _ _ _).mono ?_
  rintro e w ⟨⟨r, rfl⟩, rfl⟩
  by_cases hr : 1048576 < r
  · go_wp2
    go_ret
    exact ⟨rfl, Below.refl _ _⟩
  go_wp2_with fail
  refine (holders_any _ _ _ _ _ _ _ N S M _ hn' h0 h1 h2).mono ?_
  rintro e w1 ⟨rfl, hown, hbel⟩
  clear h0 h1 h2 hr
  obtain ⟨h, hl, hownh⟩ : ∃ h : List Hd, h.length = n ∧ w1.ownsRow w.heap.size 49 3 (.slice (some ⟨w.heap.size, 0, none⟩) n n) n (hcells h) := ⟨mkH N S M n, mkH_length N S M n, hown⟩
  clear hown
  subst hl
  obtain ⟨q, hq⟩ : ∃ q, w1.heap.size = q := ⟨_, rfl⟩
  have hgq : w.heap.size < q := by have := (hownh.lt w.heap.size rfl).2; omega
  have L3 := Laid.start (tn := tn) (ts := ts) (pn := pn) (ps := ps) hq hownh hbel
  have Hbel : Hid _ := hbel
  have Hownh : Hid _ := hownh
  clear hbel hownh
  go_wp2_with fail
  generalize (((w1.alloc (.cells #[.slice (some ⟨w.heap.size, 0, none⟩) h.length h.length] 40)).alloc (.cells #[.int .u64 tn, .string ts] 45)).alloc (.cells #[.int .u64 pn, .string ps] 45)) = x3 at L3 ⊢
  clear hq Hbel Hownh
  refine (holds_row w.heap.size w.heap.size h.length h tn ts _ L3.own (by omega)).mono ?_
  rintro e x4 ⟨rfl, hb4⟩
  have L4 := L3.keep hb4
  clear L3 hb4
  have c4 := cell_of_one L4.var
  have t40 := L4.t0
  have t41 := L4.t1
  have p40 := L4.p0
  have p41 := L4.p1
  go_wp2_with fail
  refine (zzmode_row w.heap.size w.heap.size h.length h pn ps _ L4.own (by omega)).mono ?_
  rintro e x5 ⟨rfl, hb5⟩
  have L5 := L4.keep hb5
  clear L4 hb5 c4 t40 t41 p40 p41
  have c5 := cell_of_one L5.var
  have t50 := L5.t0
  have t51 := L5.t1
  go_wp2_with fail
  refine (zzset_full w.heap.size q _ h tn ts m _ L5.sz L5.var L5.own (by omega)).mono ?_
  rintro e x6 ⟨rfl, v6, s1, s2, s3, s4⟩
  have L6 := L5.set (fun b e => by simp [Value.ownBlock] at e; omega) s1 s2 s3 s4
  clear L5 c5 t50 t51 s1 s2 s3 s4
  obtain ⟨h6, m1, m2, m3, m4, m5, L7⟩ : ∃ h6 : List Hd, Hid (modeL h6 tn ts = m) ∧ Hid (keyB pn ps tn ts = false → modeL h6 pn ps = modeL h pn ps) ∧
      Hid (holdsL h tn ts = true → h6.length = h.length) ∧ Hid (holdsL h tn ts = false → h6.length = h.length + 1) ∧ (0 < h6.length ∧ h6.length ≤ h.length + 1) ∧ Laid w q v6 h6 tn ts pn ps x6 :=
    ⟨setL h tn ts m, modeL_setL h tn ts m, fun e => modeL_setL_other h tn ts m pn ps (fun e2 => by rw [keyB_iff.2 e2] at e; cases e), fun e => holdsL_true e m, fun e => holdsL_false e m, ⟨setL_pos h tn ts m, length_setL_le h tn ts m⟩, L6⟩
  clear L6
  obtain ⟨m5, m6⟩ := m5
  obtain ⟨g, cap, hv6, hg1, hg2⟩ := L7.own.form m5
  subst hv6
  have c7 := cell_of_one L7.var
  have t70 := L7.t0
  have t71 := L7.t1
  have p70 := L7.p0
  have p71 := L7.p1
  go_wp2_with fail
  refine (zzmode_row w.heap.size g cap h6 tn ts _ L7.own (by omega)).mono ?_
  rintro e x8 ⟨rfl, hb8⟩
  rw [m1.out]
  have L8 := L7.keep hb8
  clear L7 hb8 c7 t70 t71 p70 p71 m1
  have c8 := cell_of_one L8.var
  have t80 := L8.t0
  have t81 := L8.t1
  have p80 := L8.p0
  have p81 := L8.p1
  rcases Bool.eq_false_or_eq_true (holdsL h tn ts) with hH | hH
  · have G : (((h6.length : Int) - (h.length : Int)) == 0) = true := by
      have := m3.out hH
      simp
      omega
    clear m3 m4
    by_cases hk : keyB pn ps tn ts = true
    · go_wp2
      go_ret
      exact ⟨rfl, L8.bel⟩
    · have hk : keyB pn ps tn ts = false := by simpa using hk
      go_wp2_with fail
      refine (zzmode_row w.heap.size g cap h6 pn ps _ L8.own (by omega)).mono ?_
      rintro e x9 ⟨rfl, hb9⟩
      rw [m2.out hk]
      have L9 := L8.keep hb9
      clear L8 hb9 c8 t80 t81 p80 p81 m2
      have c9 := cell_of_one L9.var
      go_wp2
      go_ret
      exact ⟨rfl, L9.bel⟩
  · have G : (((h6.length : Int) - (h.length : Int)) == 1) = true := by
      have := m4.out hH
      simp
      omega
    clear m3 m4
    by_cases hk : keyB pn ps tn ts = true
    · go_wp2
      go_ret
      exact ⟨rfl, L8.bel⟩
    · have hk : keyB pn ps tn ts = false := by simpa using hk
      go_wp2_with fail
      refine (zzmode_row w.heap.size g cap h6 pn ps _ L8.own (by omega)).mono ?_
      rintro e x9 ⟨rfl, hb9⟩
      rw [m2.out hk]
      have L9 := L8.keep hb9
      clear L8 hb9 c8 t80 t81 p80 p81 m2
      have c9 := cell_of_one L9.var
      go_wp2
      go_ret
      exact ⟨rfl, L9.bel⟩

end Go.Proofs.Qxb6600215aMods
