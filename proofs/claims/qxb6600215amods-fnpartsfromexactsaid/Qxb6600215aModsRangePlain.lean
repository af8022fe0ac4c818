/-
  THE PLAIN LAWS OF KEY RANGES: which keys lie in the gaps; the parts from a key on. No Go in sight but the order of strings by their bytes.
-/
import GoSem.Op.String
namespace Go.Proofs.Qxb6600215aMods

/-! ### The order of strings -/
theorem bl_irrefl : ∀ x : List UInt8, Op.bytesLess x x = false
  | [] => by simp [Op.bytesLess]
  | a :: x => by simp [Op.bytesLess, bl_irrefl x]
theorem bl_trans : ∀ x y z : List UInt8, Op.bytesLess x y = true → Op.bytesLess y z = true → Op.bytesLess x z = true
  | _, [], _, h, _ => by simp [Op.bytesLess] at h
  | _, _ :: _, [], _, h => by simp [Op.bytesLess] at h
  | [], _ :: _, _ :: _, _, _ => by simp [Op.bytesLess]
  | a :: x, b :: y, c :: z, h1, h2 => by
    simp only [Op.bytesLess, Bool.or_eq_true, Bool.and_eq_true, decide_eq_true_eq, beq_iff_eq] at h1 h2 ⊢
    rcases h1 with h1 | ⟨h1, h1'⟩
    · rcases h2 with h2 | ⟨h2, _⟩
      · exact .inl (UInt8.lt_trans h1 h2)
      · subst h2; exact .inl h1
    · subst h1
      rcases h2 with h2 | ⟨h2, h2'⟩
      · exact .inl h2
      · exact .inr ⟨h2, bl_trans x y z h1' h2'⟩
theorem bl_neg : ∀ x y z : List UInt8, Op.bytesLess x y = false → Op.bytesLess y z = false → Op.bytesLess x z = false
  | _, _, [], _, _ => by simp [Op.bytesLess]
  | _, [], _ :: _, _, h => by simp [Op.bytesLess] at h
  | [], _ :: _, _ :: _, h, _ => by simp [Op.bytesLess] at h
  | a :: x, b :: y, c :: z, h1, h2 => by
    simp only [Op.bytesLess, Bool.or_eq_false_iff, Bool.and_eq_false_iff, decide_eq_false_iff_not, beq_eq_false_iff_ne] at h1 h2 ⊢
    obtain ⟨p1, q1⟩ := h1
    obtain ⟨p2, q2⟩ := h2
    have e1 := UInt8.not_lt.1 p1
    have e2 := UInt8.not_lt.1 p2
    refine ⟨UInt8.not_lt.2 (UInt8.le_trans e2 e1), ?_⟩
    by_cases e : a = c
    · subst e
      have e' : a = b := UInt8.le_antisymm e2 e1
      subst e'
      rcases q1 with q1 | q1
      · exact absurd rfl q1
      · rcases q2 with q2 | q2
        · exact absurd rfl q2
        · exact .inr (bl_neg x y z q1 q2)
    · exact .inl e

/-- 'a < b'. -/
def sl (a b : ByteArray) : Bool := Op.bytesLess a.toList b.toList
/-- s is the empty string. -/
def se (s : ByteArray) : Bool := s.toList.isEmpty

theorem sl_irrefl (a : ByteArray) : sl a a = false := bl_irrefl _
theorem sl_trans {a b c : ByteArray} (h : sl a b = true) (k : sl b c = true) : sl a c = true := bl_trans _ _ _ h k
theorem sl_neg {a b c : ByteArray} (h : sl a b = false) (k : sl b c = false) : sl a c = false := bl_neg _ _ _ h k
theorem sl_asymm {a b : ByteArray} (h : sl a b = true) : sl b a = false := by
  cases e : sl b a
  · rfl
  · exact absurd (sl_trans h e) (by rw [sl_irrefl]; decide)
/-- a < b ≤ c -/
theorem sl_le {a b c : ByteArray} (h : sl a b = true) (k : sl c b = false) : sl a c = true := by
  cases e : sl a c
  · exact absurd (sl_neg e k) (by rw [h]; decide)
  · rfl
/-- a ≤ b < c -/
theorem le_sl {a b c : ByteArray} (h : sl b a = false) (k : sl b c = true) : sl a c = true := by
  cases e : sl a c
  · exact absurd (sl_neg h e) (by rw [k]; decide)
  · rfl
theorem sl_nil {a b : ByteArray} (h : se b = true) : sl a b = false := by
  unfold se at h
  unfold sl
  rw [List.isEmpty_iff.1 h]
  cases a.toList <;> rfl

/-- k lies in [f, t), an empty t being unbounded. -/
def zin (k f t : ByteArray) : Bool := !sl k f && (se t || sl k t)
/-- [f, t) holds a key. -/
def zne (f t : ByteArray) : Bool := se t || sl f t
def smax (a b : ByteArray) : ByteArray := if sl a b = true then b else a
/-- [af, at) and [bf, bt) share a key. -/
def zto (af a2 bf bt : ByteArray) : Bool := zne (if sl af bf = true then bf else af) (if se a2 = true ∨ (se bt = false ∧ sl bt a2 = true) then bt else a2)

theorem zin_iff {k f t : ByteArray} : zin k f t = true ↔ sl k f = false ∧ (se t = true ∨ sl k t = true) := by simp [zin]
theorem zne_iff {f t : ByteArray} : zne f t = true ↔ se t = true ∨ sl f t = true := by simp [zne]

theorem le_smax_l (a b : ByteArray) : sl (smax a b) a = false := by
  unfold smax; split
  · exact sl_asymm ‹_›
  · exact sl_irrefl _
theorem le_smax_r (a b : ByteArray) : sl (smax a b) b = false := by
  unfold smax
  by_cases h : sl a b = true
  · rw [if_pos h]; exact sl_irrefl _
  · rw [if_neg h]; simpa using h
/-- k ≥ max(a, b) -/
theorem smax_le {k a b : ByteArray} : sl k (smax a b) = false ↔ sl k a = false ∧ sl k b = false := by
  constructor
  · intro h
    exact ⟨sl_neg h (le_smax_l a b), sl_neg h (le_smax_r a b)⟩
  · rintro ⟨h1, h2⟩
    unfold smax; split <;> assumption

/-- What touching says: each range is not empty, and each begins ahead of the other's end. -/
theorem zto_le {af a2 bf bt : ByteArray} (h : zto af a2 bf bt = true) : zne bf a2 = true ∧ zne bf bt = true ∧ zne af bt = true ∧ zne af a2 = true := by
  unfold zto at h
  simp only [zne_iff] at h ⊢
  have hf : ∀ t, sl (if sl af bf = true then bf else af) t = true → sl af t = true ∧ sl bf t = true := by
    intro t ht
    by_cases e : sl af bf = true
    · rw [if_pos e] at ht; exact ⟨sl_trans e ht, ht⟩
    · rw [if_neg e] at ht; exact ⟨ht, le_sl (by simpa using e) ht⟩
  by_cases e : se a2 = true ∨ (se bt = false ∧ sl bt a2 = true)
  · rw [if_pos e] at h
    rcases h with h | h
    · rcases e with e | ⟨e, _⟩
      · exact ⟨.inl e, .inl h, .inl h, .inl e⟩
      · rw [h] at e; cases e
    · obtain ⟨h1, h2⟩ := hf _ h
      rcases e with e | ⟨_, e⟩
      · exact ⟨.inl e, .inr h2, .inr h1, .inl e⟩
      · exact ⟨.inr (sl_trans h2 e), .inr h2, .inr h1, .inr (sl_trans h1 e)⟩
  · rw [if_neg e] at h
    have ea : se a2 = false := by
      cases e1 : se a2
      · rfl
      · exact absurd (.inl e1) e
    rw [ea] at h
    have h : sl (if sl af bf = true then bf else af) a2 = true := by simpa using h
    obtain ⟨h1, h2⟩ := hf _ h
    cases e2 : se bt
    · have e3 : sl bt a2 = false := by
        cases e3 : sl bt a2
        · rfl
        · exact absurd (.inr ⟨e2, e3⟩) e
      exact ⟨.inr h2, .inr (sl_le h2 e3), .inr (sl_le h1 e3), .inr h1⟩
    · exact ⟨.inr h2, .inl rfl, .inl rfl, .inr h1⟩

/-! ### The gaps -/
section
variable (F T : Nat → ByteArray) (rt : ByteArray)

/-- The gaps from 'at' on, with c held ranges to come, the next of them number i. -/
def gapsG : Nat → Nat → ByteArray → List (ByteArray × ByteArray)
  | 0, _, p => if zne p rt = true then [(p, rt)] else []
  | c + 1, i, p => (if sl p (F i) = true then [(p, F i)] else []) ++ (if se (T i) = true then [] else gapsG c (i + 1) (smax p (T i)))

theorem gapsG_len (c i : Nat) (p : ByteArray) : (gapsG F T rt c i p).length ≤ c + 1 := by
  induction c generalizing i p with
  | zero => unfold gapsG; split <;> simp
  | succ c ih =>
    have := ih (i + 1) (smax p (T i))
    unfold gapsG
    split <;> split <;> simp <;> omega

theorem gapsG_mem (c i : Nat) (p k : ByteArray) (h1 : ∀ q, i ≤ q → q < i + c → zne (F q) (T q) = true ∧ zne (F q) rt = true) (h2 : ∀ q, i ≤ q → q + 1 < i + c → sl (F (q + 1)) (F q) = false) :
    (∃ g, g ∈ gapsG F T rt c i p ∧ zin k g.1 g.2 = true) ↔ (zin k p rt = true ∧ ∀ q, i ≤ q → q < i + c → zin k (F q) (T q) = false) := by
  induction c generalizing i p with
  | zero =>
    unfold gapsG
    constructor
    · rintro ⟨g, hg, hk⟩
      split at hg
      · rw [List.mem_singleton] at hg; subst hg
        exact ⟨hk, fun q a b => by omega⟩
      · cases hg
    · rintro ⟨hk, _⟩
      have e : zne p rt = true := by
        rw [zin_iff] at hk; rw [zne_iff]
        rcases hk.2 with e | e
        · exact .inl e
        · exact .inr (le_sl hk.1 e)
      rw [if_pos e]
      exact ⟨(p, rt), List.mem_singleton.2 rfl, hk⟩
  | succ c ih =>
    -- every later range begins at F i or behind it
    have hsort : ∀ d, d < c + 1 → sl (F (i + d)) (F i) = false := by
      intro d
      induction d with
      | zero => intro _; exact sl_irrefl _
      | succ d ihd => intro hd; exact sl_neg (h2 (i + d) (by omega) (by omega)) (ihd (by omega))
    have hlater : sl k (F i) = true → ∀ q, i ≤ q → q < i + (c + 1) → zin k (F q) (T q) = false := by
      intro hk q a b
      have e : sl k (F q) = true := by
        have := hsort (q - i) (by omega)
        rw [show i + (q - i) = q from by omega] at this
        exact sl_le hk this
      simp [zin, e]
    obtain ⟨hi1, hi2⟩ := h1 i (by omega) (by omega)
    have IH := ih (i + 1) (smax p (T i)) (fun q a b => h1 q (by omega) (by omega)) (fun q a b => h2 q (by omega) (by omega))
    have hrt : sl k (F i) = true → se rt = true ∨ sl k rt = true := by
      intro hk
      rw [zne_iff] at hi2
      rcases hi2 with e | e
      · exact .inl e
      · exact .inr (sl_trans hk e)
    unfold gapsG
    constructor
    · rintro ⟨g, hg, hk⟩
      rw [List.mem_append] at hg
      rcases hg with hg | hg
      · split at hg
        · rename_i hp
          rw [List.mem_singleton] at hg; subst hg
          obtain ⟨k1, k2⟩ := zin_iff.1 hk
          have k2 : sl k (F i) = true := by
            rcases k2 with k2 | k2
            · rw [sl_nil k2] at hp; cases hp
            · exact k2
          exact ⟨zin_iff.2 ⟨k1, hrt k2⟩, hlater k2⟩
        · cases hg
      · split at hg
        · cases hg
        · rename_i hT
          have hT : se (T i) = false := by simpa using hT
          obtain ⟨k1, k2⟩ := IH.1 ⟨g, hg, hk⟩
          obtain ⟨k3, k4⟩ := zin_iff.1 k1
          obtain ⟨k5, k6⟩ := smax_le.1 k3
          refine ⟨zin_iff.2 ⟨k5, k4⟩, fun q a b => ?_⟩
          by_cases e : q = i
          · subst e
            simp [zin, hT, k6]
          · exact k2 q (by omega) (by omega)
    · rintro ⟨hk, hq⟩
      obtain ⟨k1, k2⟩ := zin_iff.1 hk
      cases e1 : sl k (F i)
      · -- k ≥ F i: so it is beyond T i
        have hqi := hq i (by omega) (by omega)
        have hT : se (T i) = false ∧ sl k (T i) = false := by simpa [zin, e1] using hqi
        have hk' : zin k (smax p (T i)) rt = true := zin_iff.2 ⟨smax_le.2 ⟨k1, hT.2⟩, k2⟩
        obtain ⟨g, hg, hkg⟩ := IH.2 ⟨hk', fun q a b => hq q (by omega) (by omega)⟩
        refine ⟨g, List.mem_append.2 (.inr ?_), hkg⟩
        rw [if_neg (by rw [hT.1]; decide)]
        exact hg
      · have hp : sl p (F i) = true := le_sl k1 e1
        refine ⟨(p, F i), List.mem_append.2 (.inl ?_), zin_iff.2 ⟨k1, .inr e1⟩⟩
        rw [if_pos hp]
        exact List.mem_singleton.2 rfl

end

/-! ### The parts from a key on -/
section
variable (F T : Nat → ByteArray) (key : ByteArray)

/-- The parts that the first i ranges give. -/
def partsTo : Nat → List (ByteArray × ByteArray)
  | 0 => []
  | i + 1 => partsTo i ++ (if zne key (T i) = true then [(smax (F i) key, T i)] else [])

theorem partsTo_len (i : Nat) : (partsTo F T key i).length ≤ i := by
  induction i with
  | zero => simp [partsTo]
  | succ i ih => unfold partsTo; split <;> simp <;> omega

theorem partsTo_prefix (i n : Nat) (h : i ≤ n) : partsTo F T key i <+: partsTo F T key n := by
  induction n with
  | zero => obtain rfl : i = 0 := by omega
            exact List.prefix_refl _
  | succ n ih =>
    by_cases e : i = n + 1
    · subst e; exact List.prefix_refl _
    · exact (ih (by omega)).trans (List.prefix_append _ _)

theorem partsTo_skip (i : Nat) (h : zne key (T i) = false) : partsTo F T key (i + 1) = partsTo F T key i := by
  rw [partsTo, if_neg (by rw [h]; decide), List.append_nil]
theorem partsTo_take (i : Nat) (h : zne key (T i) = true) : partsTo F T key (i + 1) = partsTo F T key i ++ [(smax (F i) key, T i)] := by
  rw [partsTo, if_pos h]

theorem parts_lt (i n : Nat) (hi : i < n) (h : zne key (T i) = true) : (partsTo F T key i).length < (partsTo F T key n).length := by
  have := (partsTo_prefix F T key (i + 1) n (by omega)).length_le
  rw [partsTo_take F T key i h] at this
  simp at this
  omega
theorem parts_at (i n : Nat) (hi : i < n) (h : zne key (T i) = true) : (partsTo F T key n)[(partsTo F T key i).length]? = some (smax (F i) key, T i) := by
  obtain ⟨t, ht⟩ := partsTo_prefix F T key (i + 1) n (by omega)
  rw [← ht, partsTo_take F T key i h, List.append_assoc, List.getElem?_append_right (Nat.le_refl _)]
  simp

end

/-- Of a range that is not empty: it shares a key with [key, unbounded) just where partsFrom takes it. -/
theorem zto_key {f t key e : ByteArray} (he : se e = true) (h : zne f t = true) : zto f t key e = zne key t := by
  have hhi : (if se t = true ∨ (se e = false ∧ sl e t = true) then e else t) = if se t = true then e else t := by
    by_cases ht : se t = true
    · simp [ht]
    · simp [ht, he]
  unfold zto
  rw [hhi]
  by_cases ht : se t = true
  · simp [zne, ht, he]
  · have ht : se t = false := by simpa using ht
    have hf : sl f t = true := by
      rw [zne_iff] at h
      rcases h with h | h
      · rw [ht] at h; cases h
      · exact h
    simp only [zne, ht, Bool.false_or, Bool.false_eq_true, if_false]
    by_cases e1 : sl f key = true
    · rw [if_pos e1]
    · rw [if_neg e1, hf]
      exact (le_sl (by simpa using e1) hf).symm

theorem part_ne {f t key : ByteArray} (h : zne f t = true) (hk : zne key t = true) : zne (smax f key) t = true := by
  unfold smax; split <;> assumption
theorem part_in {f t key k : ByteArray} : zin k (smax f key) t = (zin k f t && !sl k key) := by
  rw [Bool.eq_iff_iff, Bool.and_eq_true, zin_iff, zin_iff, smax_le]
  simp
  constructor
  · rintro ⟨⟨a, b⟩, c⟩; exact ⟨⟨a, c⟩, b⟩
  · rintro ⟨⟨a, c⟩, b⟩; exact ⟨⟨a, b⟩, c⟩

end Go.Proofs.Qxb6600215aMods
