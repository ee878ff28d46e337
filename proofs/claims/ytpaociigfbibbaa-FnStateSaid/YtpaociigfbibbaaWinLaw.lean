/-
  FnWindowIsKept, FnGrowth, FnSample: the plain laws of one step.
-/
import Derived.Test.YtpaociigfbibbaaTold
namespace Go.Proofs.Ytpaociigfbibbaa
open Go.RowKit

/-- A space's record under the statements' times. -/
def Pt (s e n : Int) : Prop := (s = 0 ∧ e = 0 ∧ n = -1) ∨ (epoch ≤ s ∧ s < epoch + 3000000 ∧ epoch ≤ e ∧ e < epoch + 3000000)

structure InvT (c : Ctl) (L : Bool) : Prop where
  last : c.last ≠ 0 → L = true
  pc0 : Pt c.s0 c.e0 c.n0
  pc1 : Pt c.s1 c.e1 c.n1
  pc2 : Pt c.s2 c.e2 c.n2

def lostAt (L : Bool) (o : Call) : Bool := if o.kind = 2 then true else if o.kind = 4 then false else L

theorem tm_lt {t : Int} (h0 : 0 ≤ t) (h1 : t < 3000000) : epoch ≤ tm t ∧ tm t < epoch + 3000000 := by unfold tm; omega
theorem pt_mark {s e n num t : Int} (h : Pt s e n) (hn : 0 ≤ num) (h0 : epoch ≤ t) (h1 : t < epoch + 3000000) : Pt (if num = n then s else t) t (num + 1) := by
  right
  rcases h with ⟨_, _, h3⟩ | ⟨h3, h4, _, _⟩
  · rw [if_neg (by omega)]; exact ⟨h0, h1, h0, h1⟩
  · split
    · exact ⟨h3, h4, h0, h1⟩
    · exact ⟨h0, h1, h0, h1⟩
theorem pt_on {s e n num : Int} (h : Pt s e n) (hn : 0 ≤ num) (he : num = n) (n' : Int) : Pt s e n' := by
  rcases h with ⟨_, _, h3⟩ | h3
  · omega
  · exact .inr h3

theorem invT_mark {c : Ctl} {L : Bool} (h : InvT c L) {k num t : Int} {b : Bool} (hn : 0 ≤ num) (h0 : epoch ≤ t) (h1 : t < epoch + 3000000) : InvT (markC k c b num t) L := by
  obtain ⟨a0, a9, a10, a11⟩ := h
  unfold markC
  split
  · unfold mark0
    split
    · exact ⟨a0, pt_mark a9 hn h0 h1, a10, a11⟩
    · split
      · exact ⟨a0, pt_on a9 hn (by assumption) _, a10, a11⟩
      · exact ⟨a0, a9, a10, a11⟩
  · split
    · unfold mark1
      split
      · exact ⟨a0, a9, pt_mark a10 hn h0 h1, a11⟩
      · split
        · exact ⟨a0, a9, pt_on a10 hn (by assumption) _, a11⟩
        · exact ⟨a0, a9, a10, a11⟩
    · unfold mark2
      split
      · exact ⟨a0, a9, a10, pt_mark a11 hn h0 h1⟩
      · split
        · exact ⟨a0, a9, a10, pt_on a11 hn (by assumption) _⟩
        · exact ⟨a0, a9, a10, a11⟩
theorem invT_any {c d : Ctl} {L L' : Bool} (h : InvT c L) (hl : d.last ≠ 0 → L' = true) (h0 : d.s0 = c.s0) (h1 : d.e0 = c.e0) (h2 : d.n0 = c.n0) (h3 : d.s1 = c.s1) (h4 : d.e1 = c.e1) (h5 : d.n1 = c.n1) (h6 : d.s2 = c.s2) (h7 : d.e2 = c.e2) (h8 : d.n2 = c.n2) : InvT d L' := by
  obtain ⟨a0, a9, a10, a11⟩ := h
  exact ⟨hl, by rw [h0, h1, h2]; exact a9, by rw [h3, h4, h5]; exact a10, by rw [h6, h7, h8]; exact a11⟩

theorem invT_endA {c : Ctl} {L : Bool} (h : InvT c L) (now : Int) : InvT (endA c now) L := by
  unfold endA enterC grownC
  split
  · exact invT_any h h.last rfl rfl rfl rfl rfl rfl rfl rfl rfl
  · split
    · exact invT_any h h.last rfl rfl rfl rfl rfl rfl rfl rfl rfl
    · exact h

theorem invT_step {s : St} {o : Call} {L : Bool} (h : InvT s.c L) (g : ToldC o) : InvT (stepM s o).c (lostAt L o) := by
  have keep : ∀ n : Int, o.kind = n → n ≠ 2 → n ≠ 4 → lostAt L o = L := by
    intro n hn h2 h4; unfold lostAt; rw [if_neg (by omega), if_neg (by omega)]
  unfold stepM
  split
  · rw [keep 0 (by assumption) (by decide) (by decide)]
    unfold sentC; split
    · exact invT_any h h.last rfl rfl rfl rfl rfl rfl rfl rfl rfl
    · exact h
  split
  · rw [keep 1 (by assumption) (by decide) (by decide)]
    unfold ackC; repeat' split
    all_goals first | exact h | exact invT_any h h.last rfl rfl rfl rfl rfl rfl rfl rfl rfl
  split
  · rename_i h2
    have ht := tm_lt g.time0 g.time1
    have hL : lostAt L o = true := by unfold lostAt; rw [if_pos h2]
    have := invT_mark (k := o.space) (b := validB s.r.first (tm o.time) o.el) h g.num0 ht.1 ht.2
    rw [hL]
    unfold lossC; split
    · exact invT_any this (fun _ => rfl) rfl rfl rfl rfl rfl rfl rfl rfl rfl
    · exact invT_any this (fun _ => rfl) rfl rfl rfl rfl rfl rfl rfl rfl rfl
  split
  · rw [keep 3 (by assumption) (by decide) (by decide)]
    unfold discC; split
    · exact invT_any h h.last rfl rfl rfl rfl rfl rfl rfl rfl rfl
    · exact h
  split
  · have h3 := invT_endA h (tm o.now)
    unfold endB; split
    · exact invT_any h3 (fun hn => absurd rfl hn) rfl rfl rfl rfl rfl rfl rfl rfl rfl
    · exact invT_any h3 (fun hn => absurd rfl hn) rfl rfl rfl rfl rfl rfl rfl rfl rfl
  split
  · rw [keep 5 (by assumption) (by decide) (by decide)]
    exact invT_any h h.last rfl rfl rfl rfl rfl rfl rfl rfl rfl
  split
  · rw [keep 6 (by assumption) (by decide) (by decide)]
    exact h
  · have hL : lostAt L o = L := by unfold lostAt; rw [if_neg (by assumption), if_neg (by assumption)]
    rw [hL]; exact h

theorem invT_new (size : Int) : InvT (newC size) false := ⟨fun h => absurd rfl h, .inl ⟨rfl, rfl, rfl⟩, .inl ⟨rfl, rfl, rfl⟩, .inl ⟨rfl, rfl, rfl⟩⟩

theorem no_pers {k : Int} {c : Ctl} {L : Bool} {r : Rtt} {limit : Int} (h : InvT c L) (hr : InvR r) (hl : 0 ≤ limit) : persB k c r limit = false := by
  have hd : 3000000 ≤ durOf r limit := by
    unfold durOf
    have := hr.s0; have := hr.d0
    omega
  have he : eOf k c - sOf k c < 3000000 := by
    have pt : ∀ s e n : Int, Pt s e n → e - s < 3000000 := by
      intro s e n hp
      rcases hp with ⟨h1, h2, _⟩ | ⟨h1, h2, h3, h4⟩ <;> omega
    unfold eOf sOf
    split
    · exact pt _ _ _ h.pc0
    · split
      · exact pt _ _ _ h.pc1
      · exact pt _ _ _ h.pc2
  unfold persB
  rw [decide_eq_false (by omega : ¬ durOf r limit ≤ eOf k c - sOf k c), Bool.and_false]

theorem win_other {s : St} {o : Call} (h : o.kind ≠ 4) : (stepM s o).c.window = s.c.window := by
  unfold stepM
  split
  · unfold sentC; split <;> rfl
  split
  · unfold ackC; repeat' split
    all_goals rfl
  split
  · unfold lossC markC mark0 mark1 mark2; repeat' split
    all_goals rfl
  split
  · unfold discC; split <;> rfl
  split
  · rfl
  split
  · rfl
  · rfl
theorem step_end {s : St} {o : Call} (h : o.kind = 4) : stepM s o = ⟨endB o.space (endA s.c (tm o.now)) s.r o.limit, endR o.space (endA s.c (tm o.now)) s.r o.limit⟩ := by
  unfold stepM
  rw [if_neg (by omega), if_neg (by omega), if_neg (by omega), if_neg (by omega), if_pos h]

theorem win_end {size : Int} {n : Nat} {s : St} {o : Call} {L : Bool} (hs : 0 ≤ size) (hc : InvC size n s.c) (hr : InvR s.r) (ht : InvT s.c L) (g : ToldC o) (h : o.kind = 4) :
    s.c.window / 2 ≤ (stepM s o).c.window ∧ ((stepM s o).c.window < s.c.window → L = true) := by
  have hw := hc.w0
  have hz := hc.size
  rw [step_end h]
  have hp : persB o.space (endA s.c (tm o.now)) s.r o.limit = false := no_pers (invT_endA ht _) hr g.lim0
  show s.c.window / 2 ≤ (endB o.space (endA s.c (tm o.now)) s.r o.limit).window ∧ ((endB o.space (endA s.c (tm o.now)) s.r o.limit).window < s.c.window → L = true)
  unfold endB
  rw [hp]
  show s.c.window / 2 ≤ (endA s.c (tm o.now)).window ∧ ((endA s.c (tm o.now)).window < s.c.window → L = true)
  unfold endA
  split
  · rename_i hb
    refine ⟨by show s.c.window / 2 ≤ max (s.c.window / 2) (2 * s.c.size); omega, fun _ => ht.last ?_⟩
    intro h0
    unfold lossB at hb
    rw [decide_eq_true h0] at hb
    cases hb
  · split
    · have hf := firstStep_bd s.c hc.p0
      have hg := grow_inv s.c.size (by omega) s.c.pend.toNat (s.c.window + firstStep s.c) (s.c.pend - firstStep s.c) (by omega) (by omega)
      have e : (grownC s.c).window = (grow s.c.size s.c.pend.toNat (s.c.window + firstStep s.c) (s.c.pend - firstStep s.c)).1 := rfl
      rw [e]
      constructor
      · omega
      · intro hlt; omega
    · constructor
      · omega
      · intro hlt; omega

/-- Was a loss told since the last end of a batch? -/
def lostN (ops : List Call) (k : Nat) : Bool := (ops.take k).foldl lostAt false
theorem lostN_succ (ops : List Call) {k : Nat} (h : k < ops.length) : lostN ops (k + 1) = lostAt (lostN ops k) ops[k] := by
  unfold lostN
  rw [List.take_succ_eq_append_getElem h, List.foldl_append]
  rfl
theorem invT_at (size : Int) (ops : List Call) (hg : ∀ o ∈ ops, ToldC o) : ∀ k, k ≤ ops.length → InvT (stAt size ops k).c (lostN ops k)
  | 0, _ => invT_new size
  | k + 1, hk => by
    have ih := invT_at size ops hg k (by omega)
    rw [stAt_succ size ops (by omega), lostN_succ ops (by omega)]
    exact invT_step ih (hg _ (List.getElem_mem _))

theorem win_at (size : Int) (h0 : 1200 ≤ size) (h1 : size ≤ 65527) (ops : List Call) (hl : ops.length ≤ 1000) (hg : ∀ o ∈ ops, ToldC o) : ∀ k (hk : k < ops.length),
    (ops[k].kind ≠ 4 → (stAt size ops k).c.window = (stAt size ops (k + 1)).c.window) ∧ (stAt size ops k).c.window / 2 ≤ (stAt size ops (k + 1)).c.window ∧
      ((stAt size ops (k + 1)).c.window < (stAt size ops k).c.window → lostN ops k = true) := by
  intro k hk
  have hi := inv_at size h0 h1 ops hl (fun o ho => (hg o ho).good) k (by omega)
  have ht := invT_at size ops hg k (by omega)
  rw [stAt_succ size ops hk]
  have hw := hi.1.w0
  by_cases h4 : ops[k].kind = 4
  · have h := win_end (by omega) hi.1 hi.2 ht (hg _ (List.getElem_mem hk)) h4
    exact ⟨fun h => absurd h4 h, h.1, h.2⟩
  · rw [win_other h4]
    exact ⟨fun _ => rfl, by omega, fun h => by omega⟩

end Go.Proofs.Ytpaociigfbibbaa
