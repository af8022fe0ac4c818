/-
  THE WALKS OF THE FUNCTIONS THAT ONLY RECKON SIZES: each returns; what it answers is of no account to the laws. The world stands.
-/
import Derived.Test.Qxb6600215aModsRows
import Derived.WalkKit
import Derived.WalkSpells
import Derived.WalkLawsBesides
namespace Go.Proofs.Qxb6600215aMods
open Go.RowKit

/-- A slice of strings that can be read: empty, or its cells hold the strings S. -/
def StrRow (w : World) (ao : Option Addr) (len : Nat) (S : Nat → ByteArray) : Prop :=
  len ≤ 9223372036854775807 ∧ (len = 0 ∨ ∃ b off, ao = some ⟨b, off, none⟩ ∧ b < w.heap.size ∧ ∀ i, i < len → w.cell? ⟨b, off + i, none⟩ = some (.string (S i)) ∧ (S i).size ≤ 9223372036854775807)

/-- A slice of numbers that can be read: empty, or its cells hold the numbers N. -/
def IntRow (k : IntKind) (w : World) (ao : Option Addr) (len : Nat) (N : Nat → Int) : Prop :=
  len ≤ 9223372036854775807 ∧ (len = 0 ∨ ∃ b off, ao = some ⟨b, off, none⟩ ∧ b < w.heap.size ∧ ∀ i, i < len → w.cell? ⟨b, off + i, none⟩ = some (.int k (N i)))

/-- It returned a truth value, an integer: whichever. -/
def SomeBool (e : Ending) : Prop := ∃ r : Bool, e = .returned (.bool r)
def SomeInt (e : Ending) : Prop := ∃ r : Int, e = .returned (.int .i64 r)

set_option maxHeartbeats 400000 in
theorem addStr_any (t : Int) (s : ByteArray) (w : World) :
    Calls Trym.prog 11 #[.int .i64 t, .string s] w fun e w' => SomeInt e ∧ w' = w := by
  by_cases h1 : 1048576 < t
  · go_enter Trym.func11, Trym.ntmps11
    go_wp2
    go_ret
    exact ⟨⟨_, rfl⟩, rfl⟩
  · by_cases h2 : (1048576 : Int) < (s.size : Int)
    · go_enter Trym.func11, Trym.ntmps11
      go_wp2
      go_ret
      exact ⟨⟨_, rfl⟩, rfl⟩
    · go_enter Trym.func11, Trym.ntmps11
      go_wp2
      go_ret
      exact ⟨⟨_, rfl⟩, rfl⟩

set_option maxHeartbeats 400000 in
theorem addStrs_any (t : Int) (ao : Option Addr) (len cap : Nat) (S : Nat → ByteArray) (w : World) (h : StrRow w ao len S) :
    Calls Trym.prog 12 #[.int .i64 t, .slice ao len cap] w fun e w' => SomeInt e ∧ w' = w := by
  obtain ⟨hm, h⟩ := h
  rcases h with rfl | ⟨b, off, rfl, hb, hc⟩
  · go_enter Trym.func12, Trym.ntmps12
    go_wp2
    go_loop [0, 5] (fun t i => ∃ (n : Int), t = .int .i64 n ∧ i = .int .i64 0) (fun _ _ => 0)
    case atStart => exact ⟨_, rfl, rfl⟩
    case round =>
      obtain ⟨n, rfl, rfl⟩ := hrel
      go_wp2
      go_ret
      exact ⟨⟨_, rfl⟩, rfl⟩
  · go_enter Trym.func12, Trym.ntmps12
    go_wp2
    go_loop [0, 5] (fun t i => ∃ (n : Int) (k : Nat), k ≤ len ∧ t = .int .i64 n ∧ i = .int .i64 k) (fun _ i => len - (intOf i).toNat)
    case atStart => exact ⟨_, 0, Nat.zero_le _, rfl, rfl⟩
    case round =>
      obtain ⟨n, k, hk, rfl, rfl⟩ := hrel
      by_cases hlt : k < len
      · have hck := (hc k hlt).1
        clear hc
        go_wp2_with (go_at_call 11; refine (addStr_any _ _ _).mono ?_; rintro e w' ⟨⟨r, rfl⟩, rfl⟩)
        · go_ret
          exact ⟨⟨_, rfl⟩, rfl⟩
        · go_round
          case rel => exact ⟨_, k + 1, by omega, rfl, by go_num⟩
          case measure => simp [intOf]; omega
      · go_wp2
        go_ret
        exact ⟨⟨_, rfl⟩, rfl⟩

set_option maxHeartbeats 1000000 in
theorem bytesScript_any (a0 : Option Addr) (len0 cap0 : Nat) (ao : Option Addr) (len cap : Nat) (a2 : Option Addr) (len2 cap2 : Nat) (S : Nat → ByteArray) (w : World) (h : StrRow w ao len S) :
    Calls Trym.prog 22 #[.slice a0 len0 cap0, .slice ao len cap, .slice a2 len2 cap2] w fun e w' => SomeBool e ∧ w' = w := by
  obtain ⟨hm, h⟩ := h
  by_cases h0 : (1048576 : Int) < (len0 : Int)
  · go_enter Trym.func22, Trym.ntmps22
    go_wp2
    go_ret
    exact ⟨⟨_, rfl⟩, rfl⟩
  by_cases h1 : (1048576 : Int) < (len : Int)
  · go_enter Trym.func22, Trym.ntmps22
    go_wp2
    go_ret
    exact ⟨⟨_, rfl⟩, rfl⟩
  by_cases h2 : (1048576 : Int) < (len0 : Int) + (len : Int)
  · go_enter Trym.func22, Trym.ntmps22
    go_wp2
    go_ret
    exact ⟨⟨_, rfl⟩, rfl⟩
  rcases h with rfl | ⟨b, off, rfl, hb, hc⟩
  · go_enter Trym.func22, Trym.ntmps22
    go_wp2
    go_loop [7, 8] (fun t i => ∃ (n : Int), t = .int .i64 n ∧ i = .int .i64 0) (fun _ _ => 0)
    case atStart => exact ⟨_, rfl, rfl⟩
    case round =>
      obtain ⟨n, rfl, rfl⟩ := hrel
      go_wp2
      all_goals go_ret
      all_goals exact ⟨⟨_, rfl⟩, rfl⟩
  · go_enter Trym.func22, Trym.ntmps22
    go_wp2
    go_loop [7, 8] (fun t i => ∃ (n : Int) (k : Nat), k ≤ len ∧ t = .int .i64 n ∧ i = .int .i64 k) (fun _ i => len - (intOf i).toNat)
    case atStart => exact ⟨_, 0, Nat.zero_le _, rfl, rfl⟩
    case round =>
      obtain ⟨n, k, hk, rfl, rfl⟩ := hrel
      by_cases hlt : k < len
      · have hck := (hc k hlt).1
        clear hc
        by_cases h3 : (1048576 : Int) < ((S k).size : Int)
        · go_wp2
          go_ret
          exact ⟨⟨_, rfl⟩, rfl⟩
        · go_wp2
          · go_ret
            exact ⟨⟨_, rfl⟩, rfl⟩
          · go_round
            case rel => exact ⟨_, k + 1, by omega, rfl, by go_num⟩
            case measure => simp [intOf]; omega
      · go_wp2
        all_goals go_ret
        all_goals exact ⟨⟨_, rfl⟩, rfl⟩

end Go.Proofs.Qxb6600215aMods
