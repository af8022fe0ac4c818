/-
  THE WALKS OF ZZHolderTx, ZZHolderMode.
-/
import Derived.Test.Qxb6600215aModsSetWalks
namespace Go.Proofs.Qxb6600215aMods
open Go.RowKit

set_option maxHeartbeats 400000 in
theorem holderTx_any (n : Int) (s : ByteArray) (m : Int) (w : World) :
    Calls Trym.prog 24 #[.agg #[.int .u64 n, .string s, .int .u8 m]] w fun e w' => e = .returned (.agg #[.int .u64 n, .string s]) ∧ Below w.heap.size w w' := by
  go_enter Trym.func24, Trym.ntmps24
  go_wp2
  refine bodyPost_ret (v := .agg #[.int .u64 n, .string s]) (by simp [results, Trym.results24, go_sem]) rfl ⟨rfl, ?_⟩
  exact ((Below.refl _ _).alloc (Nat.le_refl _) _).alloc (by simp) _

set_option maxHeartbeats 400000 in
theorem holderMode_any (n : Int) (s : ByteArray) (m : Int) (w : World) :
    Calls Trym.prog 25 #[.agg #[.int .u64 n, .string s, .int .u8 m]] w fun e w' => e = .returned (.int .u8 m) ∧ Below w.heap.size w w' := by
  go_enter Trym.func25, Trym.ntmps25
  go_wp2
  go_ret
  exact ⟨rfl, (Below.refl _ _).alloc (Nat.le_refl _) _⟩

end Go.Proofs.Qxb6600215aMods
