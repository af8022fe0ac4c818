/-
  THE PLAIN LAW OF A SCRIPT OF set CALLS: no Go in sight.
-/
namespace Go.Proofs.Qxb6600215aMods

/-- One holder: a transaction (number, node) and the mode in which it holds the lock. -/
structure Hd where
  n : Int
  s : ByteArray
  m : Int

def Hd.key (x : Hd) : Int × List UInt8 := (x.n, x.s.toList)

/-- What 'set' makes of a list of holders. -/
def setL : List Hd → Int → ByteArray → Int → List Hd
  | [], n, s, m => [⟨n, s, m⟩]
  | x :: t, n, s, m => if x.key = (n, s.toList) then ⟨x.n, x.s, m⟩ :: t else x :: setL t n s m

theorem keys_setL (h : List Hd) (n : Int) (s : ByteArray) (m : Int) :
    (setL h n s m).map Hd.key = if (n, s.toList) ∈ h.map Hd.key then h.map Hd.key else h.map Hd.key ++ [(n, s.toList)] := by
  induction h with
  | nil => simp [setL, Hd.key]
  | cons x t ih =>
    by_cases hx : x.key = (n, s.toList)
    · simp [setL, hx]
      simp [Hd.key] at hx ⊢
      exact hx
    · have hx' : ¬ (n, s.toList) = x.key := fun e => hx e.symm
      rw [setL, if_neg hx, List.map_cons, ih]
      by_cases hm : (n, s.toList) ∈ t.map Hd.key
      · rw [if_pos hm, if_pos (by rw [List.map_cons]; exact List.mem_cons_of_mem _ hm), List.map_cons]
      · rw [if_neg hm, if_neg (by rw [List.map_cons, List.mem_cons]; exact fun e => e.elim hx' hm), List.map_cons, List.cons_append]

theorem length_setL_hit (h : List Hd) (n : Int) (s : ByteArray) (m : Int) (hm : (n, s.toList) ∈ h.map Hd.key) : (setL h n s m).length = h.length := by
  have e := congrArg List.length (keys_setL h n s m)
  rw [if_pos hm] at e
  simpa using e
theorem length_setL_miss (h : List Hd) (n : Int) (s : ByteArray) (m : Int) (hm : ¬ (n, s.toList) ∈ h.map Hd.key) : (setL h n s m).length = h.length + 1 := by
  have e := congrArg List.length (keys_setL h n s m)
  rw [if_neg hm] at e
  simpa using e
theorem length_setL_le (h : List Hd) (n : Int) (s : ByteArray) (m : Int) : (setL h n s m).length ≤ h.length + 1 := by
  by_cases hm : (n, s.toList) ∈ h.map Hd.key
  · rw [length_setL_hit h n s m hm]; omega
  · rw [length_setL_miss h n s m hm]; omega

theorem mem_setL (h : List Hd) (n : Int) (s : ByteArray) (m : Int) (hd : (h.map Hd.key).Nodup) (x : Hd) (hx : x ∈ setL h n s m) :
    (x.key = (n, s.toList) ∧ x.m = m) ∨ (x ∈ h ∧ x.key ≠ (n, s.toList)) := by
  induction h with
  | nil => simp [setL] at hx; subst hx; exact .inl ⟨rfl, rfl⟩
  | cons y t ih =>
    rw [List.map_cons, List.nodup_cons] at hd
    by_cases hy : y.key = (n, s.toList)
    · rw [setL, if_pos hy, List.mem_cons] at hx
      rcases hx with rfl | hx
      · exact .inl ⟨hy, rfl⟩
      · refine .inr ⟨List.mem_cons_of_mem _ hx, fun e => hd.1 ?_⟩
        rw [hy, ← e]
        exact List.mem_map_of_mem hx
    · rw [setL, if_neg hy, List.mem_cons] at hx
      rcases hx with rfl | hx
      · exact .inr ⟨List.mem_cons_self, hy⟩
      · rcases ih hd.2 hx with h1 | ⟨h1, h2⟩
        · exact .inl h1
        · exact .inr ⟨List.mem_cons_of_mem _ h1, h2⟩

/-- 'set' where holder i is the first that fits: its mode alone turns. -/
theorem setL_at (h : List Hd) (n : Int) (s : ByteArray) (m : Int) (i : Nat) (hi : i < h.length) (hlt : ∀ j, (hj : j < i) → (h[j]'(by omega)).key ≠ (n, s.toList)) (he : h[i].key = (n, s.toList)) :
    setL h n s m = h.set i ⟨h[i].n, h[i].s, m⟩ := by
  induction h generalizing i with
  | nil => simp at hi
  | cons x t ih =>
    cases i with
    | zero =>
      have he' : x.key = (n, s.toList) := he
      rw [setL, if_pos he']; rfl
    | succ i =>
      have h0 : x.key ≠ (n, s.toList) := hlt 0 (by omega)
      rw [setL, if_neg h0, ih i (by simpa using hi) (fun j hj => hlt (j + 1) (by omega)) he]
      rfl

/-- 'set' where no holder fits: a new one stands at the end. -/
theorem setL_none (h : List Hd) (n : Int) (s : ByteArray) (m : Int) (hlt : ∀ j, (hj : j < h.length) → h[j].key ≠ (n, s.toList)) : setL h n s m = h ++ [⟨n, s, m⟩] := by
  induction h with
  | nil => rfl
  | cons x t ih =>
    have h0 : x.key ≠ (n, s.toList) := hlt 0 (by simp)
    rw [setL, if_neg h0, ih (fun j hj => hlt (j + 1) (by simpa using hj))]
    rfl

/-- The mode in which a transaction holds the lock: that of the first holder that fits, else 0. -/
def modeL : List Hd → Int → ByteArray → Int
  | [], _, _ => 0
  | x :: t, n, s => if x.key = (n, s.toList) then x.m else modeL t n s

theorem modeL_at (h : List Hd) (n : Int) (s : ByteArray) (i : Nat) (hi : i < h.length) (hlt : ∀ j, (hj : j < i) → (h[j]'(by omega)).key ≠ (n, s.toList)) (he : h[i].key = (n, s.toList)) : modeL h n s = h[i].m := by
  induction h generalizing i with
  | nil => simp at hi
  | cons x t ih =>
    cases i with
    | zero =>
      have he' : x.key = (n, s.toList) := he
      rw [modeL, if_pos he']; rfl
    | succ i =>
      have h0 : x.key ≠ (n, s.toList) := hlt 0 (by omega)
      rw [modeL, if_neg h0, ih i (by simpa using hi) (fun j hj => hlt (j + 1) (by omega)) he]
      rfl
theorem modeL_none (h : List Hd) (n : Int) (s : ByteArray) (hlt : ∀ j, (hj : j < h.length) → h[j].key ≠ (n, s.toList)) : modeL h n s = 0 := by
  induction h with
  | nil => rfl
  | cons x t ih =>
    have h0 : x.key ≠ (n, s.toList) := hlt 0 (by simp)
    rw [modeL, if_neg h0]
    exact ih (fun j hj => hlt (j + 1) (by simpa using hj))

/-- Behind 'set' the transaction holds the lock in that mode .. -/
theorem modeL_setL (h : List Hd) (n : Int) (s : ByteArray) (m : Int) : modeL (setL h n s m) n s = m := by
  induction h with
  | nil => simp [setL, modeL, Hd.key]
  | cons x t ih =>
    by_cases hx : x.key = (n, s.toList)
    · rw [setL, if_pos hx, modeL]
      exact if_pos hx
    · rw [setL, if_neg hx, modeL, if_neg hx, ih]
/-- .. and every other one as before. -/
theorem modeL_setL_other (h : List Hd) (n : Int) (s : ByteArray) (m : Int) (n' : Int) (s' : ByteArray) (hne : (n', s'.toList) ≠ (n, s.toList)) : modeL (setL h n s m) n' s' = modeL h n' s' := by
  induction h with
  | nil =>
    have h0 : (⟨n, s, m⟩ : Hd).key ≠ (n', s'.toList) := fun e => hne (Eq.symm e)
    rw [setL]
    exact if_neg h0
  | cons x t ih =>
    by_cases hx : x.key = (n, s.toList)
    · have hx' : x.key ≠ (n', s'.toList) := fun e => hne (by rw [← e, hx])
      rw [setL, if_pos hx, modeL, modeL, if_neg hx']
      exact if_neg hx'
    · rw [setL, if_neg hx, modeL, modeL, ih]

/-- Does a holder fit? -/
def holdsL (h : List Hd) (n : Int) (s : ByteArray) : Bool := h.any fun x => decide (x.key = (n, s.toList))
theorem holdsL_at (h : List Hd) (n : Int) (s : ByteArray) (i : Nat) (hi : i < h.length) (he : h[i].key = (n, s.toList)) : holdsL h n s = true := by
  unfold holdsL
  rw [List.any_eq_true]
  exact ⟨h[i], List.getElem_mem hi, by simpa using he⟩
theorem holdsL_none (h : List Hd) (n : Int) (s : ByteArray) (hlt : ∀ j, (hj : j < h.length) → h[j].key ≠ (n, s.toList)) : holdsL h n s = false := by
  unfold holdsL
  rw [List.any_eq_false]
  intro x hx
  obtain ⟨j, hj, rfl⟩ := List.getElem_of_mem hx
  simpa using hlt j hj
theorem holdsL_true {h : List Hd} {n : Int} {s : ByteArray} (e : holdsL h n s = true) (m : Int) : (setL h n s m).length = h.length := by
  apply length_setL_hit
  unfold holdsL at e
  rw [List.any_eq_true] at e
  obtain ⟨x, hx, he⟩ := e
  rw [← of_decide_eq_true he]
  exact List.mem_map_of_mem hx
theorem holdsL_false {h : List Hd} {n : Int} {s : ByteArray} (e : holdsL h n s = false) (m : Int) : (setL h n s m).length = h.length + 1 := by
  apply length_setL_miss
  intro hm
  unfold holdsL at e
  rw [List.any_eq_false] at e
  obtain ⟨x, hx, he⟩ := List.mem_map.1 hm
  exact e x hx (by simpa using he)

section
variable (N : Nat → Int) (S : Nat → ByteArray) (M : Nat → Int)

/-- The holders behind the first i calls of the script. -/
def scr : Nat → List Hd
  | 0 => []
  | i + 1 => setL (scr i) (N i) (S i) (M i)

def kk (i : Nat) : Int × List UInt8 := (N i, (S i).toList)

theorem mem_scr (i : Nat) (k : Int × List UInt8) : k ∈ (scr N S M i).map Hd.key ↔ ∃ p, p < i ∧ kk N S p = k := by
  induction i with
  | zero => simp [scr]
  | succ i ih =>
    rw [scr, keys_setL]
    have e : (∃ p, p < i + 1 ∧ kk N S p = k) ↔ (∃ p, p < i ∧ kk N S p = k) ∨ kk N S i = k := by
      constructor
      · rintro ⟨p, hp, e⟩
        by_cases h : p = i
        · subst h; exact .inr e
        · exact .inl ⟨p, by omega, e⟩
      · rintro (⟨p, hp, e⟩ | e)
        · exact ⟨p, by omega, e⟩
        · exact ⟨i, by omega, e⟩
    rw [e, ← ih]
    by_cases hm : (N i, (S i).toList) ∈ (scr N S M i).map Hd.key
    · rw [if_pos hm]
      constructor
      · exact .inl
      · rintro (h | h)
        · exact h
        · rw [← h]; exact hm
    · rw [if_neg hm, List.mem_append, List.mem_singleton]
      constructor
      · rintro (h | h)
        · exact .inl h
        · exact .inr h.symm
      · rintro (h | h)
        · exact .inl h
        · exact .inr h.symm

theorem nodup_scr (i : Nat) : ((scr N S M i).map Hd.key).Nodup := by
  induction i with
  | zero => simp [scr]
  | succ i ih =>
    rw [scr, keys_setL]
    by_cases hm : (N i, (S i).toList) ∈ (scr N S M i).map Hd.key
    · rw [if_pos hm]; exact ih
    · rw [if_neg hm, List.nodup_append]
      refine ⟨ih, by simp, fun a ha b hb e => hm ?_⟩
      rw [List.mem_singleton] at hb
      rw [← hb, ← e]; exact ha

theorem prefix_scr (i n : Nat) (h : i ≤ n) : (scr N S M i).map Hd.key <+: (scr N S M n).map Hd.key := by
  induction n with
  | zero => obtain rfl : i = 0 := by omega
            exact List.prefix_refl _
  | succ n ih =>
    by_cases e : i = n + 1
    · subst e; exact List.prefix_refl _
    · refine (ih (by omega)).trans ?_
      rw [scr, keys_setL]
      split
      · exact List.prefix_refl _
      · exact List.prefix_append _ _

theorem mode_scr (i : Nat) (x : Hd) (hx : x ∈ scr N S M i) : ∃ q, q < i ∧ kk N S q = x.key ∧ M q = x.m ∧ ∀ r, q < r → r < i → kk N S r ≠ x.key := by
  induction i with
  | zero => simp [scr] at hx
  | succ i ih =>
    rcases mem_setL _ _ _ _ (nodup_scr N S M i) x hx with ⟨h1, h2⟩ | ⟨h1, h2⟩
    · exact ⟨i, by omega, h1.symm, h2.symm, fun r h3 h4 => by omega⟩
    · obtain ⟨q, q1, q2, q3, q4⟩ := ih h1
      refine ⟨q, by omega, q2, q3, fun r h3 h4 => ?_⟩
      by_cases e : r = i
      · subst e; exact fun e => h2 e.symm
      · exact q4 r h3 (by omega)

theorem length_scr_le (i : Nat) : (scr N S M i).length ≤ i := by
  induction i with
  | zero => simp [scr]
  | succ i ih => rw [scr]; have := length_setL_le (scr N S M i) (N i) (S i) (M i); omega

/-- A transaction that was seen before adds no holder. -/
theorem length_seen (i : Nat) (h : ∃ p, p < i ∧ kk N S p = kk N S i) : (scr N S M (i + 1)).length = (scr N S M i).length :=
  length_setL_hit _ _ _ _ ((mem_scr N S M i (kk N S i)).2 h)

/-- A transaction that was not seen before stands, at the end of the script, at the next place. -/
theorem length_unseen (i : Nat) (h : ∀ p, p < i → kk N S p ≠ kk N S i) : (scr N S M (i + 1)).length = (scr N S M i).length + 1 :=
  length_setL_miss _ _ _ _ (fun hm => by
    obtain ⟨p, hp, e⟩ := (mem_scr N S M i (kk N S i)).1 hm
    exact h p hp e)

theorem length_scr_mono (i n : Nat) (h : i ≤ n) : (scr N S M i).length ≤ (scr N S M n).length := by
  have := (prefix_scr N S M i n h).length_le
  simpa using this

theorem unseen_lt (i n : Nat) (hi : i < n) (h : ∀ p, p < i → kk N S p ≠ kk N S i) : (scr N S M i).length < (scr N S M n).length := by
  have h1 := length_unseen N S M i h
  have h2 := length_scr_mono N S M (i + 1) n (by omega)
  omega

theorem unseen_key (i n : Nat) (hi : i < n) (h : ∀ p, p < i → kk N S p ≠ kk N S i) (hj : (scr N S M i).length < (scr N S M n).length) :
    ((scr N S M n)[(scr N S M i).length]).key = kk N S i := by
  have hp := prefix_scr N S M (i + 1) n (by omega)
  have hk : (scr N S M (i + 1)).map Hd.key = (scr N S M i).map Hd.key ++ [kk N S i] := by
    rw [scr, keys_setL, if_neg]
    · rfl
    · intro hm
      obtain ⟨p, hp, e⟩ := (mem_scr N S M i (kk N S i)).1 hm
      exact h p hp e
  rw [hk] at hp
  obtain ⟨t, ht⟩ := hp
  have e : ((scr N S M n).map Hd.key)[(scr N S M i).length]? = some (kk N S i) := by
    rw [← ht, List.append_assoc, List.getElem?_append_right (by simp)]
    simp
  rw [List.getElem?_map, List.getElem?_eq_getElem hj] at e
  simpa using e

/-- .. and its mode is that of its last call. -/
theorem unseen_mode (i n : Nat) (hi : i < n) (h : ∀ p, p < i → kk N S p ≠ kk N S i) (hj : (scr N S M i).length < (scr N S M n).length)
    (q : Nat) (hqn : q < n) (hk : kk N S q = kk N S i) (hl : ∀ r, q < r → r < n → kk N S r ≠ kk N S i) : ((scr N S M n)[(scr N S M i).length]).m = M q := by
  have key := unseen_key N S M i n hi h hj
  obtain ⟨q', a, b, c, d⟩ := mode_scr N S M n _ (List.getElem_mem hj)
  rw [key] at b d
  rw [← c]
  have : q = q' := by
    rcases Nat.lt_trichotomy q q' with e | e | e
    · exact absurd b (hl q' e a)
    · exact e
    · exact absurd hk (d q e hqn)
  rw [this]

end
end Go.Proofs.Qxb6600215aMods
