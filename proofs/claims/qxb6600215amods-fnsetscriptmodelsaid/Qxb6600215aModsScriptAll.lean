/-
  THE WALK OF FnSetScriptModel: every way.
-/
import Derived.Test.Qxb6600215aModsScriptWalk
namespace Go.Proofs.Qxb6600215aMods
open Go.RowKit

set_option maxRecDepth 100000 in
set_option maxHeartbeats 1000000 in
/-- The ways that end ahead of the first loop. -/
theorem script_early (a0 : Option Addr) (n0 c0 : Nat) (a1 : Option Addr) (n1 c1 : Nat) (a2 : Option Addr) (n2 c2 : Nat) (S : Nat → ByteArray) (w : World) (hrow : StrRow w a1 n1 S)
    (hm0 : n0 ≤ 9223372036854775807) (hm2 : n2 ≤ 9223372036854775807)
    (h : 4096 < n0 ∨ 4096 < n1 ∨ 4096 < n2 ∨ n1 ≠ n0 ∨ n2 ≠ n0) :
    Calls Trym.prog 5 #[.slice a0 n0 c0, .slice a1 n1 c1, .slice a2 n2 c2] w fun e w' => e = .returned (.bool true) ∧ Below w.heap.size w w' := by
  have hm1 := hrow.1
  by_cases t0 : (4096 : Int) < (n0 : Int)
  · go_enter Trym.func5, Trym.ntmps5
    go_wp2_with fail
    refine (bytesScript_any _ _ _ _ _ _ _ _ _ S _ hrow).mono ?_
    rintro e w ⟨⟨b, rfl⟩, rfl⟩
    cases b <;> (go_wp2; go_ret; exact ⟨rfl, Below.refl _ _⟩)
  by_cases t1 : (4096 : Int) < (n1 : Int)
  · go_enter Trym.func5, Trym.ntmps5
    go_wp2_with fail
    refine (bytesScript_any _ _ _ _ _ _ _ _ _ S _ hrow).mono ?_
    rintro e w ⟨⟨b, rfl⟩, rfl⟩
    cases b <;> (go_wp2; go_ret; exact ⟨rfl, Below.refl _ _⟩)
  by_cases t2 : (4096 : Int) < (n2 : Int)
  · go_enter Trym.func5, Trym.ntmps5
    go_wp2_with fail
    refine (bytesScript_any _ _ _ _ _ _ _ _ _ S _ hrow).mono ?_
    rintro e w ⟨⟨b, rfl⟩, rfl⟩
    cases b <;> (go_wp2; go_ret; exact ⟨rfl, Below.refl _ _⟩)
  by_cases t3 : n1 = n0
  · subst t3
    have t4 : ((n2 : Int) != (n1 : Int)) = true := by simp; omega
    have t5 : ((n1 : Int) != (n1 : Int)) = false := by simp
    clear h
    go_enter Trym.func5, Trym.ntmps5
    go_wp2_with fail
    refine (bytesScript_any _ _ _ _ _ _ _ _ _ S _ hrow).mono ?_
    rintro e w ⟨⟨b, rfl⟩, rfl⟩
    cases b
    · go_wp2
      go_ret
      exact ⟨rfl, Below.refl _ _⟩
    go_wp2_with fail
    refine (addStrs_any _ _ _ _ S _ hrow).mono ?_
    rintro e w ⟨⟨r, rfl⟩, rfl⟩
    go_wp2
    all_goals (go_ret; exact ⟨rfl, Below.refl _ _⟩)
  · have t4 : ((n1 : Int) != (n0 : Int)) = true := by simp; omega
    clear h
    go_enter Trym.func5, Trym.ntmps5
    go_wp2_with fail
    refine (bytesScript_any _ _ _ _ _ _ _ _ _ S _ hrow).mono ?_
    rintro e w ⟨⟨b, rfl⟩, rfl⟩
    cases b
    · go_wp2
      go_ret
      exact ⟨rfl, Below.refl _ _⟩
    go_wp2_with fail
    refine (addStrs_any _ _ _ _ S _ hrow).mono ?_
    rintro e w ⟨⟨r, rfl⟩, rfl⟩
    go_wp2
    all_goals (go_ret; exact ⟨rfl, Below.refl _ _⟩)

set_option maxRecDepth 100000 in
set_option maxHeartbeats 1000000 in
/-- No calls at all. -/
theorem script_zero (a0 : Option Addr) (c0 : Nat) (a1 : Option Addr) (c1 : Nat) (a2 : Option Addr) (c2 : Nat) (S : Nat → ByteArray) (w : World) (hrow : StrRow w a1 0 S) :
    Calls Trym.prog 5 #[.slice a0 0 c0, .slice a1 0 c1, .slice a2 0 c2] w fun e w' => e = .returned (.bool true) ∧ Below w.heap.size w w' := by
  go_enter Trym.func5, Trym.ntmps5
  go_wp2_with fail
  refine (bytesScript_any _ _ _ _ _ _ _ _ _ S _ hrow).mono ?_
  rintro e w ⟨⟨b, rfl⟩, rfl⟩
  cases b
  · go_wp2
    go_ret
    exact ⟨rfl, Below.refl _ _⟩
  go_wp2_with fail
  refine (addStrs_any _ _ _ _ S _ hrow).mono ?_
  rintro e w ⟨⟨r, rfl⟩, rfl⟩
  by_cases hr : 1048576 < r
  · go_wp2
    go_ret
    exact ⟨rfl, Below.refl _ _⟩
  have t3 : decide (1048576 < r) = false := by simpa using hr
  clear hr
  go_wp2
  go_loopw [10] (fun i wr => i = .int .i64 0 ∧ wr = (w.alloc (.cells #[.slice none 0 0] 40))) (fun _ _ => 0)
  case atStart => exact ⟨rfl, rfl⟩
  case round =>
    obtain ⟨rfl, rfl⟩ := hrel
    go_wp2
    go_loopw [11, 12] (fun j i wx => i = .int .i64 0 ∧ j = .int .i64 0 ∧ wx = (w.alloc (.cells #[.slice none 0 0] 40))) (fun _ _ _ => 0)
    case atStart => exact ⟨rfl, rfl, rfl⟩
    case round =>
      obtain ⟨rfl, rfl, rfl⟩ := hrel
      go_wp2
      go_ret
      exact ⟨rfl, (Below.refl _ _).alloc (Nat.le_refl _) _⟩

theorem script_any (a0 : Option Addr) (n0 c0 : Nat) (a1 : Option Addr) (n1 c1 : Nat) (a2 : Option Addr) (n2 c2 : Nat) (N : Nat → Int) (S : Nat → ByteArray) (M : Nat → Int) (w : World)
    (h0 : IntRow .u64 w a0 n0 N) (h1 : StrRow w a1 n1 S) (h2 : IntRow .u8 w a2 n2 M) :
    Calls Trym.prog 5 #[.slice a0 n0 c0, .slice a1 n1 c1, .slice a2 n2 c2] w fun e w' => e = .returned (.bool true) ∧ Below w.heap.size w w' := by
  by_cases he : 4096 < n0 ∨ 4096 < n1 ∨ 4096 < n2 ∨ n1 ≠ n0 ∨ n2 ≠ n0
  · exact script_early a0 n0 c0 a1 n1 c1 a2 n2 c2 S w h1 h0.1 h2.1 he
  · obtain rfl : n1 = n0 := by omega
    obtain rfl : n2 = n1 := by omega
    by_cases hz : n2 = 0
    · subst hz
      exact script_zero a0 c0 a1 c1 a2 c2 S w h1
    · rcases h0.2 with e | ⟨b0, o0, rfl, l0, hc0⟩
      · exact absurd e hz
      rcases h1.2 with e | ⟨b1, o1, rfl, l1, hc1⟩
      · exact absurd e hz
      rcases h2.2 with e | ⟨b2, o2, rfl, l2, hc2⟩
      · exact absurd e hz
      exact script_main n2 c0 c1 c2 b0 o0 b1 o1 b2 o2 N S M w (by omega) (by omega) l0 l1 l2 hc0 (fun i hi => (hc1 i hi).1) hc2 h1

end Go.Proofs.Qxb6600215aMods
