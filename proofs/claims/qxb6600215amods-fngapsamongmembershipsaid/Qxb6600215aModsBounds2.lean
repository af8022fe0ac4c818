/-
  THE WALKS OF zzBytes_FnPartsFromExact, zzBytes_FnGapsAmongMembership: each returns; what it answers is of no account to the laws. The world stands.
-/
import Derived.Test.Qxb6600215aModsBounds
namespace Go.Proofs.Qxb6600215aMods
open Go.RowKit

theorem StrRow.at {w : World} {ao : Option Addr} {len : Nat} {S : Nat → ByteArray} (h : StrRow w ao len S) (k : Nat) (hk : k < len) : ∃ b off, ao = some ⟨b, off, none⟩ ∧ b < w.heap.size ∧ w.cell? ⟨b, off + k, none⟩ = some (.string (S k)) := by
  rcases h.2 with e | ⟨b, off, e, hb, hc⟩
  · omega
  · exact ⟨b, off, e, hb, (hc k hk).1⟩

set_option maxRecDepth 100000 in
set_option maxHeartbeats 1000000 in
theorem bytesParts_any (a0 : Option Addr) (n0 c0 : Nat) (a1 : Option Addr) (n1 c1 : Nat) (key k : ByteArray) (F T : Nat → ByteArray) (w : World) (h0 : Hid (StrRow w a0 n0 F)) (h1 : Hid (StrRow w a1 n1 T)) :
    Calls Trym.prog 31 #[.slice a0 n0 c0, .slice a1 n1 c1, .string key, .string k] w fun e w' => SomeBool e ∧ w' = w := by
  have hm0 := h0.out.1
  have hm1 := h1.out.1
  by_cases t0 : (1048576 : Int) < (n0 : Int)
  · go_enter Trym.func31, Trym.ntmps31
    go_wp2
    go_ret
    exact ⟨⟨_, rfl⟩, rfl⟩
  go_enter Trym.func31, Trym.ntmps31
  go_wp2
  go_loop [9, 10] (fun t i => ∃ (n : Int) (q : Nat), q ≤ n0 ∧ t = .int .i64 n ∧ i = .int .i64 q) (fun _ i => n0 - (intOf i).toNat)
  case atStart => exact ⟨_, 0, Nat.zero_le _, rfl, rfl⟩
  case round =>
    obtain ⟨n, q, hq, rfl, rfl⟩ := hrel
    by_cases hlt : q < n0
    · obtain ⟨b, off, hao, _, hck⟩ := h0.out.at q hlt
      subst hao
      clear h0 h1
      by_cases h3 : (1048576 : Int) < ((F q).size : Int)
      · go_wp2
        go_ret
        exact ⟨⟨_, rfl⟩, rfl⟩
      · go_wp2
        · go_ret
          exact ⟨⟨_, rfl⟩, rfl⟩
        · go_round
          case rel => exact ⟨_, q + 1, by omega, rfl, by go_num⟩
          case measure => simp [intOf]; omega
    · by_cases t1 : (1048576 : Int) < (n1 : Int)
      · go_wp2
        go_ret
        exact ⟨⟨_, rfl⟩, rfl⟩
      go_wp2
      · go_ret
        exact ⟨⟨_, rfl⟩, rfl⟩
      go_loop [9, 11] (fun t i => ∃ (m : Int) (r : Nat), r ≤ n1 ∧ t = .int .i64 m ∧ i = .int .i64 r) (fun _ i => n1 - (intOf i).toNat)
      case atStart => exact ⟨_, 0, Nat.zero_le _, rfl, rfl⟩
      case round =>
        obtain ⟨m, r, hr, rfl, rfl⟩ := hrel
        by_cases hlt1 : r < n1
        · obtain ⟨b, off, hao, _, hck⟩ := h1.out.at r hlt1
          subst hao
          clear h0 h1
          by_cases h3 : (1048576 : Int) < ((T r).size : Int)
          · go_wp2
            go_ret
            exact ⟨⟨_, rfl⟩, rfl⟩
          · go_wp2
            · go_ret
              exact ⟨⟨_, rfl⟩, rfl⟩
            · go_round
              case rel => exact ⟨_, r + 1, by omega, rfl, by go_num⟩
              case measure => simp [intOf]; omega
        · go_wp2
          all_goals go_ret
          all_goals exact ⟨⟨_, rfl⟩, rfl⟩

set_option maxRecDepth 100000 in
set_option maxHeartbeats 1000000 in
theorem bytesGaps_any (rf rt : ByteArray) (a0 : Option Addr) (n0 c0 : Nat) (a1 : Option Addr) (n1 c1 : Nat) (k : ByteArray) (F T : Nat → ByteArray) (w : World) (h0 : Hid (StrRow w a0 n0 F)) (h1 : Hid (StrRow w a1 n1 T)) :
    Calls Trym.prog 10 #[.string rf, .string rt, .slice a0 n0 c0, .slice a1 n1 c1, .string k] w fun e w' => SomeBool e ∧ w' = w := by
  have hm0 := h0.out.1
  have hm1 := h1.out.1
  by_cases s0 : (1048576 : Int) < (rf.size : Int)
  · go_enter Trym.func10, Trym.ntmps10
    go_wp2
    go_ret
    exact ⟨⟨_, rfl⟩, rfl⟩
  by_cases s1 : (1048576 : Int) < (rt.size : Int)
  · go_enter Trym.func10, Trym.ntmps10
    go_wp2
    go_ret
    exact ⟨⟨_, rfl⟩, rfl⟩
  by_cases s2 : (1048576 : Int) < (rf.size : Int) + (rt.size : Int)
  · go_enter Trym.func10, Trym.ntmps10
    go_wp2
    go_ret
    exact ⟨⟨_, rfl⟩, rfl⟩
  by_cases t0 : (1048576 : Int) < (n0 : Int)
  · go_enter Trym.func10, Trym.ntmps10
    go_wp2
    go_ret
    exact ⟨⟨_, rfl⟩, rfl⟩
  by_cases t1 : (1048576 : Int) < (rf.size : Int) + (rt.size : Int) + (n0 : Int)
  · go_enter Trym.func10, Trym.ntmps10
    go_wp2
    go_ret
    exact ⟨⟨_, rfl⟩, rfl⟩
  go_enter Trym.func10, Trym.ntmps10
  go_wp2
  go_loop [11, 12] (fun t i => ∃ (n : Int) (q : Nat), q ≤ n0 ∧ t = .int .i64 n ∧ i = .int .i64 q) (fun _ i => n0 - (intOf i).toNat)
  case atStart => exact ⟨_, 0, Nat.zero_le _, rfl, rfl⟩
  case round =>
    obtain ⟨n, q, hq, rfl, rfl⟩ := hrel
    by_cases hlt : q < n0
    · obtain ⟨b, off, hao, _, hck⟩ := h0.out.at q hlt
      subst hao
      clear h0 h1
      by_cases h3 : (1048576 : Int) < ((F q).size : Int)
      · go_wp2
        go_ret
        exact ⟨⟨_, rfl⟩, rfl⟩
      · go_wp2
        · go_ret
          exact ⟨⟨_, rfl⟩, rfl⟩
        · go_round
          case rel => exact ⟨_, q + 1, by omega, rfl, by go_num⟩
          case measure => simp [intOf]; omega
    · by_cases t2 : (1048576 : Int) < (n1 : Int)
      · go_wp2
        go_ret
        exact ⟨⟨_, rfl⟩, rfl⟩
      go_wp2
      · go_ret
        exact ⟨⟨_, rfl⟩, rfl⟩
      go_loop [11, 13] (fun t i => ∃ (m : Int) (r : Nat), r ≤ n1 ∧ t = .int .i64 m ∧ i = .int .i64 r) (fun _ i => n1 - (intOf i).toNat)
      case atStart => exact ⟨_, 0, Nat.zero_le _, rfl, rfl⟩
      case round =>
        obtain ⟨m, r, hr, rfl, rfl⟩ := hrel
        by_cases hlt1 : r < n1
        · obtain ⟨b, off, hao, _, hck⟩ := h1.out.at r hlt1
          subst hao
          clear h0 h1
          by_cases h3 : (1048576 : Int) < ((T r).size : Int)
          · go_wp2
            go_ret
            exact ⟨⟨_, rfl⟩, rfl⟩
          · go_wp2
            · go_ret
              exact ⟨⟨_, rfl⟩, rfl⟩
            · go_round
              case rel => exact ⟨_, r + 1, by omega, rfl, by go_num⟩
              case measure => simp [intOf]; omega
        · go_wp2
          all_goals go_ret
          all_goals exact ⟨⟨_, rfl⟩, rfl⟩

end Go.Proofs.Qxb6600215aMods
