/-
  FROM THE ROW's OWN READING OF A SLICE TO WHAT THE WALKS ASK OF IT.
-/
import Derived.Test.Qxb6600215aModsBounds
import Derived.ProofKit
import Derived.OpenShut
import Derived.ShutString
import Derived.ChangeOld
import Derived.Below
import Derived.Deep.Strs
namespace Go.Proofs.Qxb6600215aMods
open Go.ChangeShapes Go.WideShapes Go.ChangeAt Go.RowKit Go.Deep
open Go.ChangeMaps (open_string shut_string)

theorem plain_of {w : World} {a : Addr} {u : Value} (h : w.cell? (a.add 0) = some u) : ∃ b off, a = ⟨b, off, none⟩ := by
  obtain ⟨b, off, spot⟩ := a
  have hspot : spot = none := by simpa [Addr.add] using World.cell?_spot h
  subst hspot
  exact ⟨b, off, rfl⟩

theorem strRow_of {W : World} {a : Addr} {len : Nat} {S : Nat → ByteArray} (hm : len ≤ maxLen) (h : ∀ i, i < len → W.cell? (a.add i) = some (.string (S i)) ∧ (S i).size ≤ maxLen) : StrRow W (some a) len S := by
  refine ⟨by unfold maxLen at hm; omega, ?_⟩
  by_cases h0 : len = 0
  · exact .inl h0
  · obtain ⟨b, off, rfl⟩ := plain_of (h 0 (by omega)).1
    refine .inr ⟨b, off, rfl, World.block_lt_of_cell? W _ (h 0 (by omega)).1, fun i hi => ?_⟩
    have := h i hi
    unfold maxLen at this
    rwa [add_plain] at this

theorem intRow_of {W : World} {k : IntKind} {a : Addr} {len : Nat} {N : Nat → Int} (hm : len ≤ maxLen) (h : ∀ i, i < len → W.cell? (a.add i) = some (.int k (N i))) : IntRow k W (some a) len N := by
  refine ⟨by unfold maxLen at hm; omega, ?_⟩
  by_cases h0 : len = 0
  · exact .inl h0
  · obtain ⟨b, off, rfl⟩ := plain_of (h 0 (by omega))
    refine .inr ⟨b, off, rfl, World.block_lt_of_cell? W _ (h 0 (by omega)), fun i hi => ?_⟩
    have := h i hi
    rwa [add_plain] at this

section
variable {H : Type} {enc : TypeId × Value → H} {W : World} {d : DataW H} {p : List MemPlace} {a : Option Addr} {len cap : Nat}

theorem open_strRow (h : DataW.Trod enc Trym.prog W 0 (fun _ => true) true 22 (.slice a len cap) d p) : ∃ S, StrRow W a len S := by
  obtain ⟨fuel, hf⟩ := h
  rcases open_strs Trym.underlying22 Trym.underlying9 (by kernel_rfl) hf with ⟨hcs, _⟩ | ⟨x, l, c, m, Sx, hcs, _, hl, hm, hmm, _, hcell⟩
  · simp [Value.cells] at hcs
    obtain ⟨rfl, rfl, rfl⟩ := hcs
    exact ⟨fun _ => ByteArray.empty, by omega, .inl rfl⟩
  · simp [Value.cells] at hcs
    obtain ⟨rfl, rfl, rfl⟩ := hcs
    simp only [if_true] at hmm
    subst hmm
    exact ⟨Sx, strRow_of (by omega) (fun i hi => hcell i (by omega))⟩

theorem open_intRow {t e : TypeId} {k : IntKind} (ht : Trym.prog.underlying t = some (.slice e)) (he : Trym.prog.underlying e = some (.int k)) (hc : Trym.prog.cellsOf e = 1)
    (h : DataW.Trod enc Trym.prog W 0 (fun _ => true) true t (.slice a len cap) d p) : ∃ N, IntRow k W a len N := by
  obtain ⟨fuel, hf⟩ := h
  rcases open_ints ht he hc hf with ⟨hcs, _⟩ | ⟨x, l, c, zs, hcs, _, hl, hm, hz, _, hcell, hwz⟩
  · simp [Value.cells] at hcs
    obtain ⟨rfl, rfl, rfl⟩ := hcs
    exact ⟨fun _ => 0, by omega, .inl rfl⟩
  · simp [Value.cells] at hcs
    obtain ⟨rfl, rfl, rfl⟩ := hcs
    simp only [if_true] at hz
    exact ⟨fun i => zs.getD i 0, intRow_of (by omega) (fun i hi => hcell i (by omega))⟩

end
end Go.Proofs.Qxb6600215aMods
