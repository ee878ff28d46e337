/-
  FnState, the plain law: the reference's state and the controller's go together, and bear one name.
-/
import Derived.Test.YtpaociigfbibbaaSpNext
import Derived.Test.YtpaociigfbibbaaWinLaw
namespace Go.Proofs.Ytpaociigfbibbaa
open Go.RowKit

structure Sim (s : Sp) (c : Ctl) (r : Rtt) : Prop where
  window : s.window = c.window
  flight : s.flight = c.flight
  thresh : s.thresh = c.thresh
  pend : s.pend = c.pend
  one : s.one = c.one
  inr : s.inr = c.inr
  lim : s.lim = c.under
  least : s.least = r.least
  smooth : s.smooth = r.smooth
  dev : s.dev = r.dev
  size : s.size = c.size
  start : (c.recov = 0 ∧ s.start = -1) ∨ (c.recov = epoch + s.start ∧ 0 ≤ s.start)
  loss : (c.last = 0 ∧ s.loss = false) ∨ (c.last = epoch + s.last ∧ 0 ≤ s.last ∧ s.loss = true)

theorem epoch_pos : 0 < epoch := by decide

theorem sim_first (size : Int) : Sim (spFirst size) (newC size) newR :=
  ⟨rfl, rfl, rfl, rfl, rfl, rfl, rfl, rfl, rfl, rfl, rfl, .inl ⟨rfl, rfl⟩, .inl ⟨rfl, rfl⟩⟩

theorem sim_name {s : Sp} {c : Ctl} {r : Rtt} (h : Sim s c r) : spName s = stateBytes c := by
  unfold spName stateBytes
  rw [h.inr, h.lim, h.window, h.thresh]

theorem sim_sent {s : Sp} {c : Ctl} {r : Rtt} (h : Sim s c r) (sz : Int) (inf : Bool) : Sim (if inf then { s with flight := s.flight + sz, one := false } else s) (sentC c sz inf) r := by
  obtain ⟨h1, h2, h3, h4, h5, h6, h7, h8, h9, h10, h11, h12, h13⟩ := h
  unfold sentC
  cases inf
  · exact ⟨h1, h2, h3, h4, h5, h6, h7, h8, h9, h10, h11, h12, h13⟩
  · exact ⟨h1, by show s.flight + sz = c.flight + sz; rw [h2], h3, h4, rfl, h6, h7, h8, h9, h10, h11, h12, h13⟩

theorem sim_disc {s : Sp} {c : Ctl} {r : Rtt} (h : Sim s c r) (sz : Int) (inf : Bool) : Sim (if inf then { s with flight := s.flight - sz } else s) (discC c sz inf) r := by
  obtain ⟨h1, h2, h3, h4, h5, h6, h7, h8, h9, h10, h11, h12, h13⟩ := h
  unfold discC
  cases inf
  · exact ⟨h1, h2, h3, h4, h5, h6, h7, h8, h9, h10, h11, h12, h13⟩
  · exact ⟨h1, by show s.flight - sz = c.flight - sz; rw [h2], h3, h4, h5, h6, h7, h8, h9, h10, h11, h12, h13⟩

theorem sim_ack {s : Sp} {c : Ctl} {r : Rtt} (h : Sim s c r) (sz time : Int) (inf : Bool) (h0 : 0 ≤ time) :
    Sim (if inf then (if s.lim then { s with flight := s.flight - sz } else if time < s.start then { s with flight := s.flight - sz } else { s with flight := s.flight - sz, pend := s.pend + sz }) else s) (ackC c sz (tm time) inf) r := by
  obtain ⟨h1, h2, h3, h4, h5, h6, h7, h8, h9, h10, h11, h12, h13⟩ := h
  have hf : s.flight - sz = c.flight - sz := by rw [h2]
  have he := epoch_pos
  unfold ackC
  cases inf
  · exact ⟨h1, h2, h3, h4, h5, h6, h7, h8, h9, h10, h11, h12, h13⟩
  · rw [h7]
    rcases hu : c.under with _ | _
    · have ht : time < s.start ↔ tm time < c.recov := by
        unfold tm
        rcases h12 with ⟨a, b⟩ | ⟨a, b⟩ <;> omega
      by_cases hlt : time < s.start
      · have hlt' := ht.1 hlt
        simp only [if_true, Bool.false_eq_true, if_false, if_pos hlt, if_pos hlt']
        exact ⟨h1, hf, h3, h4, h5, h6, rfl, h8, h9, h10, h11, h12, h13⟩
      · have hlt' : ¬ tm time < c.recov := fun h => hlt (ht.2 h)
        simp only [if_true, Bool.false_eq_true, if_false, if_neg hlt, if_neg hlt']
        exact ⟨h1, hf, h3, by show s.pend + sz = c.pend + sz; rw [h4], h5, h6, rfl, h8, h9, h10, h11, h12, h13⟩
    · simp only [if_true]
      exact ⟨h1, hf, h3, h4, h5, h6, rfl, h8, h9, h10, h11, h12, h13⟩

theorem mark_keep (k : Int) (c : Ctl) (b : Bool) (num time : Int) : (markC k c b num time).window = c.window ∧ (markC k c b num time).flight = c.flight ∧ (markC k c b num time).thresh = c.thresh ∧ (markC k c b num time).pend = c.pend ∧
    (markC k c b num time).one = c.one ∧ (markC k c b num time).inr = c.inr ∧ (markC k c b num time).under = c.under ∧ (markC k c b num time).size = c.size ∧ (markC k c b num time).recov = c.recov ∧ (markC k c b num time).last = c.last := by
  unfold markC mark0 mark1 mark2
  repeat' split
  all_goals exact ⟨rfl, rfl, rfl, rfl, rfl, rfl, rfl, rfl, rfl, rfl⟩
theorem sim_mark {s : Sp} {c : Ctl} {r : Rtt} (h : Sim s c r) (k : Int) (b : Bool) (num time : Int) : Sim s (markC k c b num time) r := by
  obtain ⟨h1, h2, h3, h4, h5, h6, h7, h8, h9, h10, h11, h12, h13⟩ := h
  obtain ⟨m1, m2, m3, m4, m5, m6, m7, m8, m9, m10⟩ := mark_keep k c b num time
  exact ⟨h1.trans m1.symm, h2.trans m2.symm, h3.trans m3.symm, h4.trans m4.symm, h5.trans m5.symm, h6.trans m6.symm, h7.trans m7.symm, h8, h9, h10, h11.trans m8.symm, by rw [m9]; exact h12, by rw [m10]; exact h13⟩

theorem sim_loss {s : Sp} {c : Ctl} {r : Rtt} (h : Sim s c r) (sz time : Int) (inf : Bool) (h0 : 0 ≤ time) :
    Sim (if inf then { s with flight := s.flight - sz, last := if !s.loss || decide (s.last < time) then time else s.last, loss := true } else s) (lossC c sz (tm time) inf) r := by
  obtain ⟨h1, h2, h3, h4, h5, h6, h7, h8, h9, h10, h11, h12, h13⟩ := h
  have hf : s.flight - sz = c.flight - sz := by rw [h2]
  have he := epoch_pos
  unfold lossC
  cases inf
  · exact ⟨h1, h2, h3, h4, h5, h6, h7, h8, h9, h10, h11, h12, h13⟩
  · refine ⟨h1, hf, h3, h4, h5, h6, h7, h8, h9, h10, h11, h12, .inr ?_⟩
    show (if c.last < tm time then tm time else c.last) = epoch + (if (!s.loss || decide (s.last < time)) = true then time else s.last) ∧ 0 ≤ (if (!s.loss || decide (s.last < time)) = true then time else s.last) ∧ true = true
    rcases h13 with ⟨a, b⟩ | ⟨a, b, d⟩
    · rw [a, b, if_pos (by unfold tm; omega), if_pos (by simp)]
      exact ⟨rfl, h0, rfl⟩
    · rw [a, d]
      by_cases hlt : s.last < time
      · rw [if_pos (by unfold tm; omega), if_pos (by simp [hlt])]
        exact ⟨rfl, h0, rfl⟩
      · rw [if_neg (by unfold tm; omega), if_neg (by simp [hlt])]
        exact ⟨rfl, b, rfl⟩

theorem sim_endA {s : Sp} {c : Ctl} {r : Rtt} (h : Sim s c r) (now : Int) (h0 : 0 ≤ now) : Sim (spEnd s now) (endA c (tm now)) r := by
  have h' := h
  obtain ⟨h1, h2, h3, h4, h5, h6, h7, h8, h9, h10, h11, h12, h13⟩ := h
  have he := epoch_pos
  have hb : (s.loss && decide (s.start ≤ s.last)) = lossB c := by
    unfold lossB
    rcases h13 with ⟨a, b⟩ | ⟨a, b, d⟩
    · rw [b, a]; rfl
    · rw [d, decide_eq_false (by omega : ¬ c.last = 0)]
      by_cases hs : s.start ≤ s.last
      · rw [decide_eq_true hs, decide_eq_false (by rcases h12 with ⟨x, y⟩ | ⟨x, y⟩ <;> omega)]; rfl
      · rw [decide_eq_false hs, decide_eq_true (by rcases h12 with ⟨x, y⟩ | ⟨x, y⟩ <;> omega)]; rfl
  unfold spEnd endA
  rw [hb]
  split
  · unfold enterC
    refine ⟨?_, h2, ?_, rfl, rfl, rfl, h7, h8, h9, h10, h11, .inr ⟨rfl, h0⟩, h13⟩
    · show max (s.window / 2) (2 * s.size) = max (c.window / 2) (2 * c.size); rw [h1, h11]
    · show s.window / 2 = c.window / 2; rw [h1]
  · rw [h4]
    split
    · unfold spGrown grownC spFill firstStep
      rw [h1, h3, h4, h11]
      exact ⟨rfl, h2, rfl, rfl, h5, rfl, h7, h8, h9, h10, rfl, h12, h13⟩
    · exact h'

theorem sp_adj {s : Sp} {r : Rtt} (h : s.least = r.least) (v : Bool) (latest delay limit : Int) : spAdj s v latest delay limit = adjR r v latest delay limit := by
  unfold spAdj adjR spDelay
  rw [h]
  by_cases hc : latest - (if v = true then min delay limit else delay) < min r.least latest
  · rw [if_pos hc, if_neg (by omega)]
  · rw [if_neg hc, if_pos (by omega)]

theorem sim_sample {s : Sp} {c : Ctl} {r : Rtt} (h : Sim s c r) (now : Int) (v : Bool) (latest delay limit : Int) : Sim (spSample s v latest delay limit) c (sampleR r now v latest delay limit) := by
  obtain ⟨h1, h2, h3, h4, h5, h6, h7, h8, h9, h10, h11, h12, h13⟩ := h
  have ha := sp_adj h8 v latest delay limit
  unfold spSample sampleR
  rw [ha, h8]
  split
  · exact ⟨h1, h2, h3, h4, h5, h6, h7, rfl, rfl, rfl, h11, h12, h13⟩
  · refine ⟨h1, h2, h3, h4, h5, h6, h7, rfl, ?_, ?_, h11, h12, h13⟩
    · show (7 * s.smooth + adjR r v latest delay limit) / 8 = (7 * r.smooth + adjR r v latest delay limit) / 8; rw [h9]
    · generalize adjR r v latest delay limit = A
      show (3 * s.dev + max (s.smooth - A) (A - s.smooth)) / 4 = (3 * r.dev + (if r.smooth - A < 0 then -(r.smooth - A) else r.smooth - A)) / 4
      rw [h9, h10]
      have e : max (r.smooth - A) (A - r.smooth) = if r.smooth - A < 0 then -(r.smooth - A) else r.smooth - A := by split <;> omega
      rw [e]

theorem sim_body {s : Sp} {m : St} {o : Call} {L : Bool} (h : Sim s m.c m.r) (hr : InvR m.r) (ht : InvT m.c L) (g : ToldC o) : Sim (spBody s o) (stepM m o).c (stepM m o).r := by
  unfold spBody stepM
  by_cases k0 : o.kind = 0
  · rw [if_pos k0, if_pos k0]; exact sim_sent h _ _
  rw [if_neg k0, if_neg k0]
  by_cases k1 : o.kind = 1
  · rw [if_pos k1, if_pos k1]; exact sim_ack h _ _ _ g.time0
  rw [if_neg k1, if_neg k1]
  by_cases k2 : o.kind = 2
  · rw [if_pos k2, if_pos k2]; exact sim_loss (sim_mark h _ _ _ _) _ _ _ g.time0
  rw [if_neg k2, if_neg k2]
  by_cases k3 : o.kind = 3
  · rw [if_pos k3, if_pos k3]; exact sim_disc h _ _
  rw [if_neg k3, if_neg k3]
  by_cases k4 : o.kind = 4
  · rw [if_pos k4, if_pos k4]
    have hp : persB o.space (endA m.c (tm o.now)) m.r o.limit = false := no_pers (invT_endA ht _) hr g.lim0
    show Sim _ (endB o.space (endA m.c (tm o.now)) m.r o.limit) (endR o.space (endA m.c (tm o.now)) m.r o.limit)
    unfold endB endR
    rw [hp]
    obtain ⟨h1, h2, h3, h4, h5, h6, h7, h8, h9, h10, h11, h12, h13⟩ := sim_endA h o.now g.now0
    exact ⟨h1, h2, h3, h4, h5, h6, h7, h8, h9, h10, h11, h12, .inl ⟨rfl, rfl⟩⟩
  rw [if_neg k4, if_neg k4]
  by_cases k5 : o.kind = 5
  · rw [if_pos k5, if_pos k5]
    obtain ⟨h1, h2, h3, h4, h5, h6, h7, h8, h9, h10, h11, h12, h13⟩ := h
    exact ⟨h1, h2, h3, h4, h5, h6, rfl, h8, h9, h10, h11, h12, h13⟩
  rw [if_neg k5, if_neg k5]
  by_cases k6 : o.kind = 6
  · rw [if_pos k6, if_pos k6]; exact sim_sample h _ _ _ _ _
  rw [if_neg k6, if_neg k6]
  exact h

theorem sim_next {s : Sp} {m : St} {o : Call} {L : Bool} (h : Sim s m.c m.r) (hr : InvR m.r) (ht : InvT m.c L) (g : ToldC o) : Sim (spNext s o) (stepM m o).c (stepM m o).r := by
  obtain ⟨h1, h2, h3, h4, h5, h6, h7, h8, h9, h10, h11, h12, h13⟩ := sim_body h hr ht g
  exact ⟨h1, h2, h3, h4, h5, h6, h7, h8, h9, h10, h11, h12, h13⟩

theorem sim_ok {size : Int} {n : Nat} {s : Sp} {m : St} (hn : n ≤ 1001) (h0 : 1200 ≤ size) (h1 : size ≤ 65527) (h : Sim s m.c m.r) (hc : InvC size n m.c) (hr : InvR m.r) : SpOk s := by
  obtain ⟨q1, q2, q3, q4, q5, q6, q7, q8, q9, q10, q11, q12, q13⟩ := h
  have a1 := hc.size; have a2 := hc.fl0; have a3 := hc.fl1; have a4 := hc.p0; have a5 := hc.wp; have a6 := hc.w0; have a7 := hc.t0; have a8 := hc.t1
  have b1 := hr.s0; have b2 := hr.s1; have b3 := hr.d0; have b4 := hr.d1; have b5 := hr.l1
  constructor <;> omega

/-- The reference's state behind the first k calls. -/
def spAt (size : Int) (ops : List Call) (k : Nat) : Sp := (ops.take k).foldl spNext (spFirst size)
theorem spAt_zero (size : Int) (ops : List Call) : spAt size ops 0 = spFirst size := rfl
theorem spAt_succ (size : Int) (ops : List Call) {k : Nat} (h : k < ops.length) : spAt size ops (k + 1) = spNext (spAt size ops k) ops[k] := by
  unfold spAt
  rw [List.take_succ_eq_append_getElem h, List.foldl_append]
  rfl
theorem sim_at (size : Int) (h0 : 1200 ≤ size) (h1 : size ≤ 65527) (ops : List Call) (hl : ops.length ≤ 1000) (hg : ∀ o ∈ ops, ToldC o) : ∀ k, k ≤ ops.length → Sim (spAt size ops k) (stAt size ops k).c (stAt size ops k).r
  | 0, _ => sim_first size
  | k + 1, hk => by
    have ih := sim_at size h0 h1 ops hl hg k (by omega)
    have hi := inv_at size h0 h1 ops hl (fun o ho => (hg o ho).good) k (by omega)
    rw [stAt_succ size ops (by omega), spAt_succ size ops (by omega)]
    exact sim_next ih hi.2 (invT_at size ops hg k (by omega)) (hg _ (List.getElem_mem _))
/-- What the walk asks of the states. -/
theorem sp_all (size : Int) (h0 : 1200 ≤ size) (h1 : size ≤ 65527) (ops : List Call) (hl : ops.length ≤ 1000) (hg : ∀ o ∈ ops, ToldC o) (k : Nat) (hk : k ≤ ops.length) :
    spName (spAt size ops k) = stateBytes (stAt size ops k).c ∧ SpOk (spAt size ops k) := by
  have hs := sim_at size h0 h1 ops hl hg k hk
  have hi := inv_at size h0 h1 ops hl (fun o ho => (hg o ho).good) k hk
  exact ⟨sim_name hs, sim_ok (n := k) (by omega) h0 h1 hs hi.1 hi.2⟩

theorem body_same (s : Sp) (o : Call) : (spNext s o).flight = (spBody s o).flight ∧ (spNext s o).size = (spBody s o).size := ⟨rfl, rfl⟩
theorem sp_step (size : Int) (h0 : 1200 ≤ size) (h1 : size ≤ 65527) (ops : List Call) (hl : ops.length ≤ 1000) (hg : ∀ o ∈ ops, ToldC o) (k : Nat) (hk : k < ops.length) :
    -1099511627776 ≤ (spBody (spAt size ops k) ops[k]).flight ∧ (spBody (spAt size ops k) ops[k]).flight ≤ 1099511627776 ∧ (spBody (spAt size ops k) ops[k]).size = (spAt size ops k).size := by
  have hs := sim_at size h0 h1 ops hl hg k (by omega)
  have hs' := sim_at size h0 h1 ops hl hg (k + 1) (by omega)
  have hi := (inv_at size h0 h1 ops hl (fun o ho => (hg o ho).good) k (by omega)).1
  have hi' := (inv_at size h0 h1 ops hl (fun o ho => (hg o ho).good) (k + 1) (by omega)).1
  rw [spAt_succ size ops hk] at hs'
  have e1 := hs'.flight
  have e2 := hs'.size
  rw [(body_same _ _).1] at e1
  rw [(body_same _ _).2] at e2
  have a1 := hi'.fl0; have a2 := hi'.fl1; have a3 := hi'.size; have a4 := hi.size; have a5 := hs.size
  exact ⟨by omega, by omega, by omega⟩

end Go.Proofs.Ytpaociigfbibbaa
