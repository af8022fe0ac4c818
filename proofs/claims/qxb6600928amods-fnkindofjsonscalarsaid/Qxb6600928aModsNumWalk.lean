/-
  THE WALKS OF isDec, isJSONNumber: what a text that is a JSON number begins with.
-/
import Derived.Test.Qxb6600928aModsRows
import Derived.WalkKit
import Derived.WalkSpells
import Derived.WalkLawsBesides
import Derived.Deep.DeepCutAuto
namespace Go.Proofs.Qxb6600928aMods
open Go.RowKit

/-- A decimal digit, as isDec has it. -/
def decB (c : Int) : Bool := decide (48 ≤ c) && decide (c ≤ 57)
theorem ret_boolN {a b : Bool} (h : a = b) : Ending.returned (.bool a) = .returned (.bool b) := by rw [h]

set_option maxHeartbeats 400000 in
theorem isDec_any (c : Int) (w : World) : Calls Trym.prog 20 #[.int .u8 c] w fun e w' => e = .returned (.bool (decB c)) ∧ w' = w := by
  by_cases h1 : 48 ≤ c
  · by_cases h2 : c ≤ 57
    · go_enter Trym.func20, Trym.ntmps20
      go_wp2
      go_ret
      exact ⟨ret_boolN (by simp [decB, h1, h2]), rfl⟩
    · have h2' : 57 < c := by omega
      go_enter Trym.func20, Trym.ntmps20
      go_wp2
      go_ret
      exact ⟨ret_boolN (by simp [decB, h2]), rfl⟩
  · have h1' : c < 48 := by omega
    go_enter Trym.func20, Trym.ntmps20
    go_wp2
    go_ret
    exact ⟨ret_boolN (by simp [decB]; omega), rfl⟩

/-- The text is not empty and begins with a sign or a digit. -/
def Lead (s : ByteArray) : Prop := ∃ h : 0 < s.size, ((s[0]'h).toNat : Int) = 45 ∨ (48 ≤ ((s[0]'h).toNat : Int) ∧ ((s[0]'h).toNat : Int) ≤ 57)
/-- It returned a truth value; if true, P holds. -/
def IfTrue (P : Prop) (e : Ending) : Prop := ∃ b : Bool, e = .returned (.bool b) ∧ (b = true → P)
/-- Slot i holds a place up to n, slot t a truth value; if true, the place is below n. -/
def AtB (n : Nat) (i t : Value) : Prop := ∃ (k : Nat) (b : Bool), k ≤ n ∧ i = .int .i64 k ∧ t = .bool b ∧ (b = true → k < n)

theorem lead_of {s : ByteArray} {j : Nat} (h : j < s.size) (hj : j ≤ 1) (hl : j = 1 → Lead s) (h1 : 48 ≤ (s[j].toNat : Int)) (h2 : (s[j].toNat : Int) ≤ 57) : Lead s := by
  match j, h, hj, hl, h1, h2 with
  | 0, h, _, _, h1, h2 => exact ⟨h, .inr ⟨h1, h2⟩⟩
  | 1, _, _, hl, _, _ => exact hl rfl

/-- Slot i holds 0, or 1 behind a sign. -/
def StartAt (s : ByteArray) (i : Value) : Prop := ∃ j : Nat, i = .int .i64 j ∧ j ≤ 1 ∧ (j = 1 → Lead s)

set_option maxRecDepth 100000 in
set_option maxHeartbeats 2000000 in
theorem number_some (s : ByteArray) (w : World) (hm : s.size ≤ 1048576) (hp : 0 < s.size) :
    Calls Trym.prog 17 #[.string s] w fun e w' => IfTrue (Lead s) e ∧ w' = w := by
  have hp' : (0 : Int) < (s.size : Int) := by omega
  go_enter Trym.func17, Trym.ntmps17
  go_upto_if 15 with fail
  go_cut [4] (fun i w' => StartAt s i ∧ w = w')
  case first =>
    rcases Bool.eq_false_or_eq_true ((s[0].toNat : Int) == 45) with h45 | h45
    · have hL0 : Lead s := ⟨hp, .inl (by simpa using h45)⟩
      go_wp2
      go_meet
      case rel => exact ⟨⟨1, rfl, by omega, fun _ => hL0⟩, rfl⟩
    · go_wp2
      go_meet
      case rel => exact ⟨⟨0, rfl, by omega, fun h => by omega⟩, rfl⟩
  case rest =>
    obtain ⟨⟨j, rfl, hj, hl⟩, rfl⟩ := hcut
    have Hl : Hid (j = 1 → Lead s) := hl
    clear hl
    by_cases h1 : j < s.size
    · have h1' : (j : Int) < (s.size : Int) := by omega
      go_upto_if 24 with fail
      go_cut [4] (fun i w' => ∃ k : Nat, k ≤ s.size ∧ i = .int .i64 k ∧ Lead s ∧ w = w')
      case first =>
        rcases Bool.eq_false_or_eq_true ((s[j].toNat : Int) == 48) with h48 | h48
        · have hL : Lead s := lead_of h1 hj Hl.out (by have : (s[j].toNat : Int) = 48 := by simpa using h48
                                                       omega) (by have : (s[j].toNat : Int) = 48 := by simpa using h48
                                                                  omega)
          go_wp2
          go_meet
          case rel => exact ⟨j + 1, by omega, by go_num, hL, rfl⟩
        · by_cases h49 : 49 ≤ (s[j].toNat : Int)
          · by_cases h57 : (s[j].toNat : Int) ≤ 57
            · have hL : Lead s := lead_of h1 hj Hl.out (by omega) h57
              go_wp2
              generalize (decide (s.size ≤ j)) = b20
              generalize ((s[j].toNat : Int) == 48) = b24
              go_loopg [4] (s.size) (fun gk i wr => ∃ k : Nat, k ≤ s.size ∧ s.size ≤ k + gk ∧ i = .int .i64 k ∧ w = wr)
              case atStart => exact ⟨j + 1, by omega, by omega, by go_num, rfl⟩
              case round =>
                obtain ⟨k, hk, hgk, rfl, rfl⟩ := hrel
                by_cases hlt : k < s.size
                · rcases Bool.eq_false_or_eq_true (decB (s[k].toNat : Int)) with hdk | hdk
                  · go_wp2_with (go_at_call 20; refine (isDec_any _ _).mono ?_; rintro e w ⟨rfl, rfl⟩)
                    go_roundg (gk - 1)
                    case measure => omega
                    case rel => exact ⟨k + 1, by omega, by omega, by go_num, rfl⟩
                  · go_wp2_with (go_at_call 20; refine (isDec_any _ _).mono ?_; rintro e w ⟨rfl, rfl⟩)
                    go_meet
                    case rel => exact ⟨k, hk, rfl, hL, rfl⟩
                · go_wp2
                  go_meet
                  case rel => exact ⟨k, hk, rfl, hL, rfl⟩
            · go_wp2
              go_ret
              exact ⟨⟨_, rfl, fun h => by cases h⟩, rfl⟩
          · go_wp2
            go_ret
            exact ⟨⟨_, rfl, fun h => by cases h⟩, rfl⟩
      case rest =>
        obtain ⟨k, hk, rfl, hL, rfl⟩ := hcut
        go_upto_region 14 with fail
        go_cut [4, 58] (fun i t w' => AtB s.size i t ∧ Lead s ∧ w = w')
        case first =>
          by_cases hlt : k < s.size
          · go_wp2
            all_goals go_meet
            all_goals exact ⟨⟨k, _, hk, rfl, rfl, fun _ => hlt⟩, hL, rfl⟩
          · go_wp2
            go_meet
            case rel => exact ⟨⟨k, _, hk, rfl, rfl, fun h => by cases h⟩, hL, rfl⟩
        case rest =>
          obtain ⟨⟨k, b, hk, rfl, rfl, hb⟩, hL, rfl⟩ := hcut
          go_upto_if 58 with fail
          go_cut [4] (fun i w' => ∃ k : Nat, k ≤ s.size ∧ i = .int .i64 k ∧ Lead s ∧ w = w')
          case first =>
            cases b
            · go_wp2
              go_meet
              case rel => exact ⟨k, hk, rfl, hL, rfl⟩
            · have hlt := hb rfl
              clear hb
              by_cases h2 : k + 1 < s.size
              · have h2' : ((k : Int) + 1) < (s.size : Int) := by omega
                rcases Bool.eq_false_or_eq_true (decB (s[k + 1].toNat : Int)) with hd | hd
                · go_wp2_with (go_at_call 20; refine (isDec_any _ _).mono ?_; rintro e w ⟨rfl, rfl⟩)
                  go_loopg [4] (s.size) (fun gk i wr => ∃ k : Nat, k ≤ s.size ∧ s.size ≤ k + gk ∧ i = .int .i64 k ∧ w = wr)
                  case atStart => exact ⟨k + 1, by omega, by omega, by go_num, rfl⟩
                  case round =>
                    obtain ⟨k, hk, hgk, rfl, rfl⟩ := hrel
                    by_cases hlt : k < s.size
                    · rcases Bool.eq_false_or_eq_true (decB (s[k].toNat : Int)) with hdk | hdk
                      · go_wp2_with (go_at_call 20; refine (isDec_any _ _).mono ?_; rintro e w ⟨rfl, rfl⟩)
                        go_roundg (gk - 1)
                        case measure => omega
                        case rel => exact ⟨k + 1, by omega, by omega, by go_num, rfl⟩
                      · go_wp2_with (go_at_call 20; refine (isDec_any _ _).mono ?_; rintro e w ⟨rfl, rfl⟩)
                        go_meet
                        case rel => exact ⟨k, hk, rfl, hL, rfl⟩
                    · go_wp2
                      go_meet
                      case rel => exact ⟨k, hk, rfl, hL, rfl⟩
                · go_wp2_with (go_at_call 20; refine (isDec_any _ _).mono ?_; rintro e w ⟨rfl, rfl⟩)
                  go_ret
                  exact ⟨⟨_, rfl, fun h => by cases h⟩, rfl⟩
              · have h2' : (s.size : Int) ≤ ((k : Int) + 1) := by omega
                go_wp2
                go_ret
                exact ⟨⟨_, rfl, fun h => by cases h⟩, rfl⟩
          case rest =>
            clear hk hb
            obtain ⟨k, hk, rfl, hL, rfl⟩ := hcut
            go_upto_region 20 with fail
            go_cut [4, 96] (fun i t w' => AtB s.size i t ∧ Lead s ∧ w = w')
            case first =>
              by_cases hlt : k < s.size
              · go_wp2
                all_goals go_meet
                all_goals exact ⟨⟨k, _, hk, rfl, rfl, fun _ => hlt⟩, hL, rfl⟩
              · go_wp2
                go_meet
                case rel => exact ⟨⟨k, _, hk, rfl, rfl, fun h => by cases h⟩, hL, rfl⟩
            case rest =>
              obtain ⟨⟨k, b, hk, rfl, rfl, hb⟩, hL, rfl⟩ := hcut
              go_upto_if 96 with fail
              go_cut [4] (fun i w' => ∃ k : Nat, k ≤ s.size ∧ i = .int .i64 k ∧ Lead s ∧ w = w')
              case first =>
                cases b
                · go_wp2
                  go_meet
                  case rel => exact ⟨k, hk, rfl, hL, rfl⟩
                · have hlt := hb rfl
                  clear hb
                  by_cases h2 : k + 1 < s.size
                  · have h2' : ((k : Int) + 1) < (s.size : Int) := by omega
                    by_cases hsg : (((s[k + 1].toNat : Int) == 43) || ((s[k + 1].toNat : Int) == 45)) = true
                    · by_cases h3 : k + 2 < s.size
                      · have h3' : ((k : Int) + 1 + 1) < (s.size : Int) := by omega
                        have hsg2 := Bool.or_eq_true_iff.1 hsg
                        clear hsg
                        rcases hsg2 with hsg | hsg
                        · rcases Bool.eq_false_or_eq_true (decB (s[k + 1 + 1].toNat : Int)) with hd | hd
                          · go_wp2_with (go_at_call 20; refine (isDec_any _ _).mono ?_; rintro e w ⟨rfl, rfl⟩)
                            go_loopg [4] (s.size) (fun gk i wr => ∃ k : Nat, k ≤ s.size ∧ s.size ≤ k + gk ∧ i = .int .i64 k ∧ w = wr)
                            case atStart => exact ⟨k + 1 + 1, by omega, by omega, by go_num, rfl⟩
                            case round =>
                              obtain ⟨k, hk, hgk, rfl, rfl⟩ := hrel
                              by_cases hlt : k < s.size
                              · rcases Bool.eq_false_or_eq_true (decB (s[k].toNat : Int)) with hdk | hdk
                                · go_wp2_with (go_at_call 20; refine (isDec_any _ _).mono ?_; rintro e w ⟨rfl, rfl⟩)
                                  go_roundg (gk - 1)
                                  case measure => omega
                                  case rel => exact ⟨k + 1, by omega, by omega, by go_num, rfl⟩
                                · go_wp2_with (go_at_call 20; refine (isDec_any _ _).mono ?_; rintro e w ⟨rfl, rfl⟩)
                                  go_meet
                                  case rel => exact ⟨k, hk, rfl, hL, rfl⟩
                              · go_wp2
                                go_meet
                                case rel => exact ⟨k, hk, rfl, hL, rfl⟩
                          · go_wp2_with (go_at_call 20; refine (isDec_any _ _).mono ?_; rintro e w ⟨rfl, rfl⟩)
                            go_ret
                            exact ⟨⟨_, rfl, fun h => by cases h⟩, rfl⟩
                        · have hs43 : ((s[k + 1].toNat : Int) == 43) = false := by
                            have e : (s[k + 1].toNat : Int) = 45 := by simpa using hsg
                            rw [e]; rfl
                          rcases Bool.eq_false_or_eq_true (decB (s[k + 1 + 1].toNat : Int)) with hd | hd
                          · go_wp2_with (go_at_call 20; refine (isDec_any _ _).mono ?_; rintro e w ⟨rfl, rfl⟩)
                            go_loopg [4] (s.size) (fun gk i wr => ∃ k : Nat, k ≤ s.size ∧ s.size ≤ k + gk ∧ i = .int .i64 k ∧ w = wr)
                            case atStart => exact ⟨k + 1 + 1, by omega, by omega, by go_num, rfl⟩
                            case round =>
                              obtain ⟨k, hk, hgk, rfl, rfl⟩ := hrel
                              by_cases hlt : k < s.size
                              · rcases Bool.eq_false_or_eq_true (decB (s[k].toNat : Int)) with hdk | hdk
                                · go_wp2_with (go_at_call 20; refine (isDec_any _ _).mono ?_; rintro e w ⟨rfl, rfl⟩)
                                  go_roundg (gk - 1)
                                  case measure => omega
                                  case rel => exact ⟨k + 1, by omega, by omega, by go_num, rfl⟩
                                · go_wp2_with (go_at_call 20; refine (isDec_any _ _).mono ?_; rintro e w ⟨rfl, rfl⟩)
                                  go_meet
                                  case rel => exact ⟨k, hk, rfl, hL, rfl⟩
                              · go_wp2
                                go_meet
                                case rel => exact ⟨k, hk, rfl, hL, rfl⟩
                          · go_wp2_with (go_at_call 20; refine (isDec_any _ _).mono ?_; rintro e w ⟨rfl, rfl⟩)
                            go_ret
                            exact ⟨⟨_, rfl, fun h => by cases h⟩, rfl⟩
                      · have h3' : (s.size : Int) ≤ ((k : Int) + 1 + 1) := by omega
                        go_wp2
                        all_goals go_ret
                        all_goals exact ⟨⟨_, rfl, fun h => by cases h⟩, rfl⟩
                    · have hsg2 := Bool.or_eq_false_iff.1 (Bool.eq_false_iff.2 hsg)
                      obtain ⟨hs1, hs2⟩ := hsg2
                      clear hsg
                      rcases Bool.eq_false_or_eq_true (decB (s[k + 1].toNat : Int)) with hd | hd
                      · go_wp2_with (go_at_call 20; refine (isDec_any _ _).mono ?_; rintro e w ⟨rfl, rfl⟩)
                        go_loopg [4] (s.size) (fun gk i wr => ∃ k : Nat, k ≤ s.size ∧ s.size ≤ k + gk ∧ i = .int .i64 k ∧ w = wr)
                        case atStart => exact ⟨k + 1, by omega, by omega, by go_num, rfl⟩
                        case round =>
                          obtain ⟨k, hk, hgk, rfl, rfl⟩ := hrel
                          by_cases hlt : k < s.size
                          · rcases Bool.eq_false_or_eq_true (decB (s[k].toNat : Int)) with hdk | hdk
                            · go_wp2_with (go_at_call 20; refine (isDec_any _ _).mono ?_; rintro e w ⟨rfl, rfl⟩)
                              go_roundg (gk - 1)
                              case measure => omega
                              case rel => exact ⟨k + 1, by omega, by omega, by go_num, rfl⟩
                            · go_wp2_with (go_at_call 20; refine (isDec_any _ _).mono ?_; rintro e w ⟨rfl, rfl⟩)
                              go_meet
                              case rel => exact ⟨k, hk, rfl, hL, rfl⟩
                          · go_wp2
                            go_meet
                            case rel => exact ⟨k, hk, rfl, hL, rfl⟩
                      · go_wp2_with (go_at_call 20; refine (isDec_any _ _).mono ?_; rintro e w ⟨rfl, rfl⟩)
                        go_ret
                        exact ⟨⟨_, rfl, fun h => by cases h⟩, rfl⟩
                  · have h2' : (s.size : Int) ≤ ((k : Int) + 1) := by omega
                    go_wp2
                    go_ret
                    exact ⟨⟨_, rfl, fun h => by cases h⟩, rfl⟩
              case rest =>
                clear hk hb
                obtain ⟨k, hk, rfl, hL, rfl⟩ := hcut
                go_wp2
                go_ret
                exact ⟨⟨_, rfl, fun _ => hL⟩, rfl⟩
    · have h1' : (s.size : Int) ≤ (j : Int) := by omega
      go_wp2
      go_ret
      exact ⟨⟨_, rfl, fun h => by cases h⟩, rfl⟩

set_option maxRecDepth 100000 in
set_option maxHeartbeats 1000000 in
theorem number_none (s : ByteArray) (w : World) (hp : s.size = 0) :
    Calls Trym.prog 17 #[.string s] w fun e w' => IfTrue (Lead s) e ∧ w' = w := by
  have he : s = ByteArray.empty := by
    obtain ⟨a⟩ := s
    have h0 : a.size = 0 := hp
    have h1 : a = #[] := Array.size_eq_zero_iff.1 h0
    rw [h1]; rfl
  subst he
  clear hp
  go_enter Trym.func17, Trym.ntmps17
  go_wp2
  go_ret
  exact ⟨⟨_, rfl, fun h => by cases h⟩, rfl⟩

theorem number_any (s : ByteArray) (w : World) (hm : s.size ≤ 1048576) : Calls Trym.prog 17 #[.string s] w fun e w' => IfTrue (Lead s) e ∧ w' = w := by
  by_cases hp : s.size = 0
  · exact number_none s w hp
  · exact number_some s w hm (by omega)

end Go.Proofs.Qxb6600928aMods
