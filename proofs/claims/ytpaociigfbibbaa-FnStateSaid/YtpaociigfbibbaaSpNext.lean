/-
  The reference: the contract of Next.
-/
import Derived.Test.YtpaociigfbibbaaSpNextA
import Derived.Test.YtpaociigfbibbaaSpNextB
import Derived.Test.YtpaociigfbibbaaSpNextC
import Derived.Test.YtpaociigfbibbaaSpNextD
import Derived.Test.YtpaociigfbibbaaSpNextE
namespace Go.Proofs.Ytpaociigfbibbaa
open Go.RowKit

theorem next_any (s : Sp) (o : Call) (w : World) (hN : NextOk s o) :
    Calls Try.prog 15 #[.agg #[.int .i64 s.window, .int .i64 s.flight, .int .i64 s.thresh, .int .i64 s.pend, .bool s.can, .bool s.one, .bool s.inr, .bool s.lim, .int .i64 s.least, .int .i64 s.smooth, .int .i64 s.dev, .int .i64 s.start, .int .i64 s.last, .bool s.loss, .int .i64 s.size], .agg #[.int .i64 o.kind, .int .i64 o.space, .int .i64 o.now, .int .i64 o.time, .int .i64 o.num, .int .i64 o.size, .bool o.el, .bool o.inf, .bool o.v, .int .i64 o.latest, .int .i64 o.delay, .int .i64 o.limit]] w fun e w' => e = .returned (.agg (spCells (spNext s o))) ∧ Below w.heap.size w w' := by
  have hk0 := hN.k0
  have hk1 := hN.k1
  have hk : o.kind = 0 ∨ o.kind = 1 ∨ o.kind = 2 ∨ o.kind = 3 ∨ o.kind = 4 ∨ o.kind = 5 ∨ o.kind = 6 := by omega
  rcases hk with hk | hk | hk | hk | hk | hk | hk
  · exact next_k0 s o w hk hN
  · exact next_k1 s o w hk hN
  · exact next_k2 s o w hk hN
  · exact next_k3 s o w hk hN
  · rcases hL : (s.loss && decide (s.start ≤ s.last)) with _ | _
    · by_cases hp : 0 < s.pend
      · exact next_k4g s o w hk hN hL hp
      · exact next_k4s s o w hk hN hL hp
    · exact next_k4e s o w hk hN hL
  · exact next_k5 s o w hk hN
  · exact next_k6 s o w hk hN

end Go.Proofs.Ytpaociigfbibbaa
