/-
  More small lemmas for the walks.
-/
import Derived.Test.YtakjogblkbioaaaBase
namespace Go.Proofs.Ytakjogblkbioaaa
open Go.RowKit

theorem Up.lts {W w1 : World} (h : Up W w1) : ∀ b, b < W.heap.size → b < w1.heap.size := fun _ hb => Nat.lt_of_lt_of_le hb h.le
theorem blk_new (w : World) (T : TypeId) (p q r t : Int) : Blk (w.alloc (.cells #[.int .i64 p, .int .i64 q, .int .u64 r, .int .u64 t] T)) w.heap.size p q r t := by
  unfold Blk
  simp [go_sem]

end Go.Proofs.Ytakjogblkbioaaa
