/-
  FnGrowth and FnSample: the plain laws of one step.
-/
import Derived.Test.YtpaociigfbibbaaWinLaw
namespace Go.Proofs.Ytpaociigfbibbaa
open Go.RowKit

theorem grow_quo (size W : Int) (hs : 0 ≤ size) (hW : 0 < W) : ∀ (n : Nat) (w p : Int), W ≤ w → 0 ≤ p → (grow size n w p).1 - w ≤ size * (p / W)
  | 0, w, p, _, hp => by
    show w - w ≤ size * (p / W)
    have := Int.mul_nonneg hs (Int.ediv_nonneg hp (Int.le_of_lt hW))
    omega
  | n + 1, w, p, hw, hp => by
    unfold grow
    split
    · rename_i hlt
      have ih := grow_quo size W hs hW n (w + size) (p - w) (by omega) (by omega)
      have h1 : (p - w) / W + 1 ≤ p / W := by
        have h2 : (p - w) / W ≤ (p - W) / W := Int.ediv_le_ediv hW (by omega)
        have h3 : (p + W * (-1)) / W = p / W + -1 := Int.add_mul_ediv_left p (-1) (by omega)
        have h4 : p + W * (-1) = p - W := by omega
        rw [h4] at h3
        omega
      have h5 : size * ((p - w) / W + 1) ≤ size * (p / W) := Int.mul_le_mul_of_nonneg_left h1 hs
      rw [Int.mul_add, Int.mul_one] at h5
      omega
    · have := Int.mul_nonneg hs (Int.ediv_nonneg hp (Int.le_of_lt hW))
      omega

theorem grow_end {size : Int} {n : Nat} {s : St} {o : Call} (hs : 1200 ≤ size) (hc : InvC size n s.c) (h : o.kind = 4) :
    (stepM s o).c.window - s.c.window ≤ s.c.pend ∧ (s.c.thresh ≤ s.c.window → (stepM s o).c.window - s.c.window ≤ size * (s.c.pend / s.c.window)) := by
  have hw := hc.w0
  have hz := hc.size
  have hp := hc.p0
  have hq : 0 ≤ size * (s.c.pend / s.c.window) := Int.mul_nonneg (by omega) (Int.ediv_nonneg hp (by omega))
  rw [step_end h]
  show (endB o.space (endA s.c (tm o.now)) s.r o.limit).window - s.c.window ≤ s.c.pend ∧ (s.c.thresh ≤ s.c.window → (endB o.space (endA s.c (tm o.now)) s.r o.limit).window - s.c.window ≤ size * (s.c.pend / s.c.window))
  have hsz : (endA s.c (tm o.now)).size = s.c.size := by unfold endA enterC grownC; repeat' split
                                                         all_goals rfl
  have hA : (endA s.c (tm o.now)).window - s.c.window ≤ s.c.pend ∧ (s.c.thresh ≤ s.c.window → (endA s.c (tm o.now)).window - s.c.window ≤ size * (s.c.pend / s.c.window)) := by
    unfold endA
    split
    · have e : (enterC s.c (tm o.now)).window = max (s.c.window / 2) (2 * s.c.size) := rfl
      rw [e]
      exact ⟨by omega, fun _ => by omega⟩
    · split
      · have hf := firstStep_bd s.c hc.p0
        have hg := grow_inv s.c.size (by omega) s.c.pend.toNat (s.c.window + firstStep s.c) (s.c.pend - firstStep s.c) (by omega) (by omega)
        have e : (grownC s.c).window = (grow s.c.size s.c.pend.toNat (s.c.window + firstStep s.c) (s.c.pend - firstStep s.c)).1 := rfl
        rw [e]
        refine ⟨by omega, fun ht => ?_⟩
        have h0 : firstStep s.c = 0 := by unfold firstStep; rw [if_neg (by omega)]
        have hq := grow_quo s.c.size s.c.window (by omega) (by omega) s.c.pend.toNat (s.c.window + firstStep s.c) (s.c.pend - firstStep s.c) (by omega) (by omega)
        rw [h0] at hq ⊢
        rw [hz] at hq ⊢
        simpa using hq
      · exact ⟨by omega, fun _ => by omega⟩
  unfold endB
  split
  · show 2 * (endA s.c (tm o.now)).size - s.c.window ≤ s.c.pend ∧ (s.c.thresh ≤ s.c.window → 2 * (endA s.c (tm o.now)).size - s.c.window ≤ size * (s.c.pend / s.c.window))
    rw [hsz]
    exact ⟨by omega, fun _ => by omega⟩
  · exact hA

theorem r_other {s : St} {o : Call} {L : Bool} (hr : InvR s.r) (ht : InvT s.c L) (g : ToldC o) (h : o.kind ≠ 6) : (stepM s o).r = s.r := by
  by_cases h4 : o.kind = 4
  · rw [step_end h4]
    show endR o.space (endA s.c (tm o.now)) s.r o.limit = s.r
    unfold endR
    rw [no_pers (invT_endA ht _) hr g.lim0]
    rfl
  · unfold stepM
    repeat' split
    all_goals first | rfl | contradiction
theorem step_sample {s : St} {o : Call} (h : o.kind = 6) : (stepM s o).r = sampleR s.r (tm o.now) o.v o.latest o.delay o.limit := by
  unfold stepM
  rw [if_neg (by omega), if_neg (by omega), if_neg (by omega), if_neg (by omega), if_neg (by omega), if_neg (by omega), if_pos h]

end Go.Proofs.Ytpaociigfbibbaa
