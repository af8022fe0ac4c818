/-
  THE WALK OF isQuotedText: what a quoted text begins with.
-/
import Derived.Test.Qxb6600928aModsRows
import Derived.WalkKit
import Derived.WalkSpells
import Derived.WalkLawsBesides
namespace Go.Proofs.Qxb6600928aMods
open Go.RowKit

/-- The text is not empty and begins with a quotation mark. -/
def Quoted (s : ByteArray) : Prop := ∃ h : 0 < s.size, ((s[0]'h).toNat : Int) = 34
/-- It returned a truth value; if true, P holds. -/
def IfTrueQ (P : Prop) (e : Ending) : Prop := ∃ b : Bool, e = .returned (.bool b) ∧ (b = true → P)

set_option maxRecDepth 100000 in
set_option maxHeartbeats 1000000 in
theorem quoted_any (s : ByteArray) (w : World) (hm : s.size ≤ 1048576) :
    Calls Trym.prog 18 #[.string s] w fun e w' => IfTrueQ (Quoted s) e ∧ w' = w := by
  by_cases h2 : (s.size : Int) < 2
  · go_enter Trym.func18, Trym.ntmps18
    go_wp2
    go_ret
    exact ⟨⟨_, rfl, fun h => by cases h⟩, rfl⟩
  have hp : 0 < s.size := by omega
  have hp' : (0 : Int) < (s.size : Int) := by omega
  have hl1 : s.size - 1 < s.size := by omega
  rcases Bool.eq_false_or_eq_true ((s[0].toNat : Int) != 34) with h34 | h34
  · go_enter Trym.func18, Trym.ntmps18
    go_wp2
    go_ret
    exact ⟨⟨_, rfl, fun h => by cases h⟩, rfl⟩
  have HQ : Hid (Quoted s) := ⟨hp, by simpa using h34⟩
  rcases Bool.eq_false_or_eq_true ((s[s.size - 1].toNat : Int) != 34) with h35 | h35
  · go_enter Trym.func18, Trym.ntmps18
    go_wp2
    go_ret
    exact ⟨⟨_, rfl, fun h => by cases h⟩, rfl⟩
  go_enter Trym.func18, Trym.ntmps18
  go_wp2
  go_loop [3] (fun i => ∃ k : Nat, k + 1 ≤ s.size ∧ i = .int .i64 k) (fun i => s.size - (intOf i).toNat)
  case atStart => exact ⟨1, by omega, rfl⟩
  case round =>
    obtain ⟨k, hk, rfl⟩ := hrel
    by_cases hlt : (k : Int) < (s.size : Int) - 1
    · have hlt' : k < s.size := by omega
      by_cases h32 : (s[k].toNat : Int) < 32
      · go_wp2
        go_ret
        exact ⟨⟨_, rfl, fun h => by cases h⟩, rfl⟩
      rcases Bool.eq_false_or_eq_true ((s[k].toNat : Int) == 34) with hq | hq
      · go_wp2
        go_ret
        exact ⟨⟨_, rfl, fun h => by cases h⟩, rfl⟩
      rcases Bool.eq_false_or_eq_true ((s[k].toNat : Int) == 92) with hbs | hbs
      · by_cases h3 : (s.size : Int) - 1 ≤ (k : Int) + 1
        · go_wp2
          go_ret
          exact ⟨⟨_, rfl, fun h => by cases h⟩, rfl⟩
        · go_wp2
          go_round
          case rel => exact ⟨k + 2, by omega, by go_num⟩
          case measure => simp [intOf]; omega
      · go_wp2
        go_round
        case rel => exact ⟨k + 1, by omega, by go_num⟩
        case measure => simp [intOf]; omega
    · go_wp2
      go_ret
      exact ⟨⟨_, rfl, fun _ => HQ.out⟩, rfl⟩

end Go.Proofs.Qxb6600928aMods
