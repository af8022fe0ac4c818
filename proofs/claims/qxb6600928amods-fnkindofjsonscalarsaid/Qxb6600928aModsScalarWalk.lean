/-
  THE WALKS OF zzBytes_FnKindOfJSONScalar, scalarKind, FnKindOfJSONScalar.
-/
import Derived.Test.Qxb6600928aModsKindWalks
import Derived.Test.Qxb6600928aModsNumWalk
import Derived.Test.Qxb6600928aModsQuoteWalk
namespace Go.Proofs.Qxb6600928aMods
open Go.RowKit

set_option maxHeartbeats 400000 in
theorem bytesScalar_any (s : ByteArray) (w : World) (hm : s.size ≤ 9223372036854775807) :
    Calls Trym.prog 9 #[.string s] w fun e w' => e = .returned (.bool (decide (s.size ≤ 1048576))) ∧ w' = w := by
  by_cases h : (1048576 : Int) < (s.size : Int)
  · go_enter Trym.func9, Trym.ntmps9
    go_wp2
    go_ret
    exact ⟨ret_boolN (by simp; omega), rfl⟩
  · go_enter Trym.func9, Trym.ntmps9
    go_wp2
    go_ret
    exact ⟨ret_boolN (by simp; omega), rfl⟩

theorem str_ne {s : ByteArray} {l : List UInt8} (h : s ≠ { data := l.toArray }) : (s.toList == l) = false := by
  rw [beq_eq_false_iff_ne]
  intro e
  apply h
  rw [ByteArray.toList_eq] at e
  obtain ⟨a⟩ := s
  obtain ⟨x⟩ := a
  have e : x = l := e
  rw [e]

/-- What scalarKind answers: the kind of the first byte, or nothing. -/
def KindRes (s : ByteArray) (e : Ending) : Prop := e = .returned (.string { data := #[] }) ∨ ∃ h : 0 < s.size, e = .returned (.string (kname (kix ((s[0]'h).toNat : Int))))

theorem kix_lead {s : ByteArray} (h : Lead s) : ∃ h : 0 < s.size, kname (kix ((s[0]'h).toNat : Int)) = { data := #[110, 117, 109, 98, 101, 114] } := by
  obtain ⟨hp, h⟩ := h
  refine ⟨hp, ?_⟩
  have e : kix ((s[0]'hp).toNat : Int) = 5 := by
    unfold kix
    rw [if_neg (by omega), if_neg (by omega), if_neg (by omega), if_neg (by omega), if_neg (by omega)]
  rw [e]
  rfl
theorem kix_quoted {s : ByteArray} (h : Quoted s) : ∃ h : 0 < s.size, kname (kix ((s[0]'h).toNat : Int)) = { data := #[115, 116, 114, 105, 110, 103] } := by
  obtain ⟨hp, h⟩ := h
  refine ⟨hp, ?_⟩
  rw [h]
  rfl

set_option maxRecDepth 100000 in
set_option maxHeartbeats 1000000 in
theorem scalar_any (s : ByteArray) (w : World) (hm : s.size ≤ 1048576) : Calls Trym.prog 10 #[.string s] w fun e w' => KindRes s e ∧ w' = w := by
  by_cases ht : s = { data := #[116, 114, 117, 101] }
  · subst ht
    go_enter Trym.func10, Trym.ntmps10
    go_wp2
    go_ret
    exact ⟨.inr ⟨by decide, rfl⟩, rfl⟩
  by_cases hf : s = { data := #[102, 97, 108, 115, 101] }
  · subst hf
    go_enter Trym.func10, Trym.ntmps10
    go_wp2
    go_ret
    exact ⟨.inr ⟨by decide, rfl⟩, rfl⟩
  by_cases hn : s = { data := #[110, 117, 108, 108] }
  · subst hn
    go_enter Trym.func10, Trym.ntmps10
    go_wp2
    go_ret
    exact ⟨.inr ⟨by decide, rfl⟩, rfl⟩
  have e1 : (s.toList == [116, 114, 117, 101]) = false := str_ne ht
  have e2 : (s.toList == [102, 97, 108, 115, 101]) = false := str_ne hf
  have e3 : (s.toList == [110, 117, 108, 108]) = false := str_ne hn
  clear ht hf hn
  go_enter Trym.func10, Trym.ntmps10
  go_wp2_with fail
  refine (number_any _ _ hm).mono ?_
  rintro e w ⟨⟨b, rfl, hb⟩, rfl⟩
  cases b
  · clear hb
    go_wp2_with fail
    refine (quoted_any _ _ hm).mono ?_
    rintro e w ⟨⟨b, rfl, hb⟩, rfl⟩
    cases b
    · clear hb
      go_wp2
      go_ret
      exact ⟨.inl rfl, rfl⟩
    · have HB := hb rfl
      clear hb
      go_wp2
      go_ret
      obtain ⟨hp, hk⟩ := kix_quoted HB
      exact ⟨.inr ⟨hp, by rw [hk]; rfl⟩, rfl⟩
  · have HB := hb rfl
    clear hb
    go_wp2
    go_ret
    obtain ⟨hp, hk⟩ := kix_lead HB
    exact ⟨.inr ⟨hp, by rw [hk]; rfl⟩, rfl⟩

theorem kname_some (i : Nat) : (kname i).toList.isEmpty = false := by
  rw [ByteArray.toList_eq]
  unfold kname
  split <;> rfl

set_option maxRecDepth 100000 in
set_option maxHeartbeats 1000000 in
theorem json_any (s : ByteArray) (w : World) (hm : s.size ≤ 9223372036854775807) : Calls Trym.prog 4 #[.string s] w fun e w' => e = .returned (.bool true) ∧ w' = w := by
  by_cases h : s.size ≤ 1048576
  · have hd : decide (s.size ≤ 1048576) = true := by simpa using h
    have hd2 : decide ((1048576 : Int) < (s.size : Int)) = false := by simp; omega
    go_enter Trym.func4, Trym.ntmps4
    go_wp2_with fail
    refine (bytesScalar_any _ _ hm).mono ?_
    rintro e w ⟨rfl, rfl⟩
    rw [hd]
    clear hd
    go_wp2_with fail
    refine (scalar_any _ _ h).mono ?_
    rintro e w ⟨hk, rfl⟩
    rcases hk with rfl | ⟨hp, rfl⟩
    · go_wp2
      go_ret
      exact ⟨rfl, rfl⟩
    · have hz := fun w => zzkind_any ((s[0]'hp).toNat : Int) w
      have hne := kname_some (kix ((s[0]'hp).toNat : Int))
      generalize kname (kix ((s[0]'hp).toNat : Int)) = K at hz hne ⊢
      have hp' : (0 : Int) < (s.size : Int) := by omega
      go_wp2_with fail
      refine (hz _).mono ?_
      rintro e w ⟨rfl, rfl⟩
      clear hz
      go_wp2
      go_ret
      exact ⟨ret_boolN (by simp), rfl⟩
  · have hd : decide (s.size ≤ 1048576) = false := by simpa using h
    go_enter Trym.func4, Trym.ntmps4
    go_wp2_with fail
    refine (bytesScalar_any _ _ hm).mono ?_
    rintro e w ⟨rfl, rfl⟩
    rw [hd]
    clear hd
    go_wp2
    go_ret
    exact ⟨rfl, rfl⟩

end Go.Proofs.Qxb6600928aMods
