/-
  THE WALKS OF kind, ZZkind.
-/
import Derived.Test.Qxb6600928aModsRows
import Derived.WalkKit
import Derived.WalkSpells
import Derived.WalkLawsBesides
namespace Go.Proofs.Qxb6600928aMods
open Go.RowKit

/-- The number of a byte's kind. -/
def kix (c : Int) : Nat := if c = 123 then 0 else if c = 91 then 1 else if c = 34 then 2 else if c = 116 ∨ c = 102 then 3 else if c = 110 then 4 else 5
/-- The kinds' names. -/
def kname : Nat → ByteArray
  | 0 => ⟨#[111, 98, 106, 101, 99, 116]⟩
  | 1 => ⟨#[97, 114, 114, 97, 121]⟩
  | 2 => ⟨#[115, 116, 114, 105, 110, 103]⟩
  | 3 => ⟨#[98, 111, 111, 108]⟩
  | 4 => ⟨#[110, 117, 108, 108]⟩
  | _ => ⟨#[110, 117, 109, 98, 101, 114]⟩

theorem ret_str {a b : ByteArray} (h : a = b) : Ending.returned (.string a) = .returned (.string b) := by rw [h]

set_option maxHeartbeats 400000 in
theorem kind_any (c : Int) (w : World) : Calls Trym.prog 16 #[.int .u8 c] w fun e w' => e = .returned (.string (kname (kix c))) ∧ w' = w := by
  by_cases h0 : c = 123
  · subst h0
    go_enter Trym.func16, Trym.ntmps16
    go_wp2
    go_ret
    exact ⟨ret_str (by simp [kix, kname]), rfl⟩
  by_cases h1 : c = 91
  · subst h1
    go_enter Trym.func16, Trym.ntmps16
    go_wp2
    go_ret
    exact ⟨ret_str (by simp [kix, kname]), rfl⟩
  by_cases h2 : c = 34
  · subst h2
    go_enter Trym.func16, Trym.ntmps16
    go_wp2
    go_ret
    exact ⟨ret_str (by simp [kix, kname]), rfl⟩
  by_cases h3 : c = 116
  · subst h3
    go_enter Trym.func16, Trym.ntmps16
    go_wp2
    go_ret
    exact ⟨ret_str (by simp [kix, kname]), rfl⟩
  by_cases h4 : c = 102
  · subst h4
    go_enter Trym.func16, Trym.ntmps16
    go_wp2
    go_ret
    exact ⟨ret_str (by simp [kix, kname]), rfl⟩
  by_cases h5 : c = 110
  · subst h5
    go_enter Trym.func16, Trym.ntmps16
    go_wp2
    go_ret
    exact ⟨ret_str (by simp [kix, kname]), rfl⟩
  have e0 : (c == 123) = false := by simpa using h0
  have e1 : (c == 91) = false := by simpa using h1
  have e2 : (c == 34) = false := by simpa using h2
  have e3 : (c == 116) = false := by simpa using h3
  have e4 : (c == 102) = false := by simpa using h4
  have e5 : (c == 110) = false := by simpa using h5
  have hk : kix c = 5 := by simp [kix, h0, h1, h2, h3, h4, h5]
  rw [hk]
  clear h0 h1 h2 h3 h4 h5 hk
  go_enter Trym.func16, Trym.ntmps16
  go_wp2
  go_ret
  exact ⟨rfl, rfl⟩

set_option maxHeartbeats 400000 in
theorem zzkind_any (c : Int) (w : World) : Calls Trym.prog 8 #[.int .u8 c] w fun e w' => e = .returned (.string (kname (kix c))) ∧ w' = w := by
  go_enter Trym.func8, Trym.ntmps8
  go_wp2_with (go_at_call 16; refine (kind_any _ _).mono ?_; rintro e w' ⟨rfl, rfl⟩)
  go_ret
  exact ⟨rfl, rfl⟩

end Go.Proofs.Qxb6600928aMods
