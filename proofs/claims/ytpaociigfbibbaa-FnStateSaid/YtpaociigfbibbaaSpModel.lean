/-
  The reference: the model of Next.
-/
import Derived.Test.YtpaociigfbibbaaSpSample
import Derived.Deep.CutBlock
namespace Go.Proofs.Ytpaociigfbibbaa
open Go.RowKit
attribute [local go_sem ↓] sp_min sp_max

def spFill (s : Sp) : Int := if s.window < s.thresh then min (s.thresh - s.window) s.pend else 0
def spGrown (s : Sp) : Sp :=
  { s with inr := false, window := (grow s.size s.pend.toNat (s.window + spFill s) (s.pend - spFill s)).1, pend := (grow s.size s.pend.toNat (s.window + spFill s) (s.pend - spFill s)).2 }
def spEnd (s : Sp) (now : Int) : Sp :=
  if s.loss && decide (s.start ≤ s.last) then { s with start := now, inr := true, one := true, thresh := s.window / 2, window := max (s.window / 2) (2 * s.size), pend := 0 }
  else if 0 < s.pend then spGrown s else s
def spBody (s : Sp) (o : Call) : Sp :=
  if o.kind = 0 then (if o.inf then { s with flight := s.flight + o.size, one := false } else s)
  else if o.kind = 1 then (if o.inf then (if s.lim then { s with flight := s.flight - o.size } else if o.time < s.start then { s with flight := s.flight - o.size } else { s with flight := s.flight - o.size, pend := s.pend + o.size }) else s)
  else if o.kind = 2 then (if o.inf then { s with flight := s.flight - o.size, last := if !s.loss || decide (s.last < o.time) then o.time else s.last, loss := true } else s)
  else if o.kind = 3 then (if o.inf then { s with flight := s.flight - o.size } else s)
  else if o.kind = 4 then { spEnd s o.now with loss := false }
  else if o.kind = 5 then { s with lim := o.v }
  else if o.kind = 6 then spSample s o.v o.latest o.delay o.limit
  else s
def spNext (s : Sp) (o : Call) : Sp := { spBody s o with can := (spBody s o).one || decide ((spBody s o).flight + (spBody s o).size ≤ (spBody s o).window) }

theorem spBody_sample (s : Sp) (o : Call) (h : o.kind = 6) : spBody s o = spSample s o.v o.latest o.delay o.limit := by
  unfold spBody
  rw [if_neg (by omega), if_neg (by omega), if_neg (by omega), if_neg (by omega), if_neg (by omega), if_neg (by omega), if_pos h]

/-- Bounds by which no number of the reference wraps. -/
structure SpOk (s : Sp) : Prop where
  z0 : 1200 ≤ s.size
  z1 : s.size ≤ 65527
  f0 : -1099511627776 ≤ s.flight
  f1 : s.flight ≤ 1099511627776
  w0 : 2 * s.size ≤ s.window
  w1 : s.window ≤ 1099511627776
  t0 : 0 ≤ s.thresh
  t1 : s.thresh ≤ 9223372036854775807
  p0 : 0 ≤ s.pend
  p1 : s.pend ≤ 1099511627776
  s0 : 0 ≤ s.smooth
  s1 : s.smooth ≤ 1099511627776
  d0 : 0 ≤ s.dev
  d1 : s.dev ≤ 1099511627776
  m1 : s.least ≤ 1099511627776

/-- What the contract of Next asks. -/
structure NextOk (s : Sp) (o : Call) : Prop where
  k0 : 0 ≤ o.kind
  k1 : o.kind ≤ 6
  z0 : 0 ≤ o.size
  z1 : o.size ≤ 65535
  l0 : 0 ≤ o.latest
  l1 : o.latest ≤ 1099511627776
  d0 : 0 ≤ o.delay
  d1 : o.delay ≤ 1099511627776
  t0 : 0 ≤ o.limit
  t1 : o.limit ≤ 1099511627776
  ok : SpOk s
  q0 : -1099511627776 ≤ (spBody s o).flight
  q1 : (spBody s o).flight ≤ 1099511627776
  q2 : (spBody s o).size = s.size


end Go.Proofs.Ytpaociigfbibbaa
