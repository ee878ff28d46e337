/-
  The model of a run, and what every state of a run keeps: bounds by which no number of the program wraps.
-/
import Derived.Test.YtpaociigfbibbaaEnd
namespace Go.Proofs.Ytpaociigfbibbaa
open Go.RowKit

def newC (size : Int) : Ctl :=
  { size := size, window := min (10 * size) (max 14720 (2 * size)), flight := 0, thresh := 9223372036854775807, recov := 0, pend := 0, one := false, inr := false, under := false, last := 0,
    s0 := 0, e0 := 0, n0 := -1, s1 := 0, e1 := 0, n1 := -1, s2 := 0, e2 := 0, n2 := -1 }
def newR : Rtt := { least := -1, latest := 0, smooth := 333000000, dev := 166500000, first := 0 }

structure St where
  c : Ctl
  r : Rtt

def stepM (s : St) (o : Call) : St :=
  if o.kind = 0 then ⟨sentC s.c o.size o.inf, s.r⟩
  else if o.kind = 1 then ⟨ackC s.c o.size (tm o.time) o.inf, s.r⟩
  else if o.kind = 2 then ⟨lossC (markC o.space s.c (validB s.r.first (tm o.time) o.el) o.num (tm o.time)) o.size (tm o.time) o.inf, s.r⟩
  else if o.kind = 3 then ⟨discC s.c o.size o.inf, s.r⟩
  else if o.kind = 4 then ⟨endB o.space (endA s.c (tm o.now)) s.r o.limit, endR o.space (endA s.c (tm o.now)) s.r o.limit⟩
  else if o.kind = 5 then ⟨{ s.c with under := o.v }, s.r⟩
  else if o.kind = 6 then ⟨s.c, sampleR s.r (tm o.now) o.v o.latest o.delay o.limit⟩
  else s

def s0 (size : Int) : St := ⟨newC size, newR⟩
/-- The state behind the first k calls. -/
def stAt (size : Int) (ops : List Call) (k : Nat) : St := (ops.take k).foldl stepM (s0 size)

theorem stAt_zero (size : Int) (ops : List Call) : stAt size ops 0 = s0 size := rfl
theorem stAt_succ (size : Int) (ops : List Call) {k : Nat} (h : k < ops.length) : stAt size ops (k + 1) = stepM (stAt size ops k) ops[k] := by
  unfold stAt
  rw [List.take_succ_eq_append_getElem h, List.foldl_append]
  rfl

/-- What is asked of a call. -/
structure Good (o : Call) : Prop where
  sp0 : 0 ≤ o.space
  sp1 : o.space ≤ 2
  now0 : 0 ≤ o.now
  now1 : o.now ≤ 17592186044416
  time0 : 0 ≤ o.time
  time1 : o.time ≤ 17592186044416
  num0 : 0 ≤ o.num
  num1 : o.num < 4611686018427387904
  size0 : 0 ≤ o.size
  size1 : o.size ≤ 65535
  lat0 : 0 ≤ o.latest
  lat1 : o.latest ≤ 1099511627776
  del0 : 0 ≤ o.delay
  del1 : o.delay ≤ 1099511627776
  lim0 : 0 ≤ o.limit
  lim1 : o.limit ≤ 1099511627776

/-- A space's record: nothing yet, or two times of the run. -/
def Pc (s e n : Int) : Prop := (s = 0 ∧ e = 0 ∧ n = -1) ∨ (epoch ≤ s ∧ s ≤ epoch + 17592186044416 ∧ epoch ≤ e ∧ e ≤ epoch + 17592186044416)

structure InvC (sz : Int) (n : Nat) (c : Ctl) : Prop where
  size : c.size = sz
  fl0 : -(65535 * (n : Int)) ≤ c.flight
  fl1 : c.flight ≤ 65535 * (n : Int)
  p0 : 0 ≤ c.pend
  wp : c.window + c.pend ≤ 655270 + 65535 * (n : Int)
  w0 : 2 * sz ≤ c.window
  t0 : 0 ≤ c.thresh
  t1 : c.thresh ≤ 9223372036854775807
  pc0 : Pc c.s0 c.e0 c.n0
  pc1 : Pc c.s1 c.e1 c.n1
  pc2 : Pc c.s2 c.e2 c.n2

structure InvR (r : Rtt) : Prop where
  l0 : -1 ≤ r.least
  l1 : r.least ≤ 1099511627776
  la0 : 0 ≤ r.latest
  la1 : r.latest ≤ 1099511627776
  s0 : 0 ≤ r.smooth
  s1 : r.smooth ≤ 1099511627776
  d0 : 0 ≤ r.dev
  d1 : r.dev ≤ 1099511627776

theorem invR_new : InvR newR := by constructor <;> decide
theorem invC_new (size : Int) (h0 : 1200 ≤ size) (h1 : size ≤ 65527) : InvC size 0 (newC size) := by
  refine ⟨rfl, ?_, ?_, ?_, ?_, ?_, ?_, ?_, .inl ⟨rfl, rfl, rfl⟩, .inl ⟨rfl, rfl, rfl⟩, .inl ⟨rfl, rfl, rfl⟩⟩ <;> simp only [newC] <;> omega

theorem grow_inv (size : Int) (h : 0 ≤ size) : ∀ (n : Nat) (w p : Int), size ≤ w → 0 ≤ p → w ≤ (grow size n w p).1 ∧ 0 ≤ (grow size n w p).2 ∧ (grow size n w p).1 + (grow size n w p).2 ≤ w + p
  | 0, w, p, _, h2 => ⟨Int.le_refl _, h2, Int.le_refl _⟩
  | n + 1, w, p, h1, h2 => by
    unfold grow
    split
    · rename_i hlt
      have := grow_inv size h n (w + size) (p - w) (by omega) (by omega)
      omega
    · exact ⟨Int.le_refl _, h2, Int.le_refl _⟩

theorem firstStep_bd (c : Ctl) (h : 0 ≤ c.pend) : 0 ≤ firstStep c ∧ firstStep c ≤ c.pend := by unfold firstStep; split <;> omega

theorem invC_sent {size : Int} {n : Nat} {c : Ctl} (h : InvC size n c) {sz : Int} {inf : Bool} (h0 : 0 ≤ sz) (h1 : sz ≤ 65535) : InvC size (n + 1) (sentC c sz inf) := by
  obtain ⟨a1, a2, a3, a4, a5, a6, a7, a8, a9, a10, a11⟩ := h
  unfold sentC
  split
  · refine ⟨a1, ?_, ?_, a4, ?_, a6, a7, a8, a9, a10, a11⟩ <;> simp only <;> omega
  · refine ⟨a1, ?_, ?_, a4, ?_, a6, a7, a8, a9, a10, a11⟩ <;> omega
theorem invC_disc {size : Int} {n : Nat} {c : Ctl} (h : InvC size n c) {sz : Int} {inf : Bool} (h0 : 0 ≤ sz) (h1 : sz ≤ 65535) : InvC size (n + 1) (discC c sz inf) := by
  obtain ⟨a1, a2, a3, a4, a5, a6, a7, a8, a9, a10, a11⟩ := h
  unfold discC
  split
  · refine ⟨a1, ?_, ?_, a4, ?_, a6, a7, a8, a9, a10, a11⟩ <;> simp only <;> omega
  · refine ⟨a1, ?_, ?_, a4, ?_, a6, a7, a8, a9, a10, a11⟩ <;> omega
theorem invC_ack {size : Int} {n : Nat} {c : Ctl} (h : InvC size n c) {sz t : Int} {inf : Bool} (h0 : 0 ≤ sz) (h1 : sz ≤ 65535) : InvC size (n + 1) (ackC c sz t inf) := by
  obtain ⟨a1, a2, a3, a4, a5, a6, a7, a8, a9, a10, a11⟩ := h
  unfold ackC
  split
  · split
    · refine ⟨a1, ?_, ?_, a4, ?_, a6, a7, a8, a9, a10, a11⟩ <;> simp only <;> omega
    · split
      · refine ⟨a1, ?_, ?_, a4, ?_, a6, a7, a8, a9, a10, a11⟩ <;> simp only <;> omega
      · refine ⟨a1, ?_, ?_, ?_, ?_, a6, a7, a8, a9, a10, a11⟩ <;> simp only <;> omega
  · refine ⟨a1, ?_, ?_, a4, ?_, a6, a7, a8, a9, a10, a11⟩ <;> omega
theorem invC_under {size : Int} {n : Nat} {c : Ctl} (h : InvC size n c) (v : Bool) : InvC size (n + 1) { c with under := v } := by
  obtain ⟨a1, a2, a3, a4, a5, a6, a7, a8, a9, a10, a11⟩ := h
  refine ⟨a1, ?_, ?_, a4, ?_, a6, a7, a8, a9, a10, a11⟩ <;> simp only <;> omega
theorem invC_same {size : Int} {n : Nat} {c : Ctl} (h : InvC size n c) : InvC size (n + 1) c := by
  obtain ⟨a1, a2, a3, a4, a5, a6, a7, a8, a9, a10, a11⟩ := h
  refine ⟨a1, ?_, ?_, a4, ?_, a6, a7, a8, a9, a10, a11⟩ <;> omega

theorem pc_mark {s e n num t : Int} (h : Pc s e n) (hn : 0 ≤ num) (h0 : epoch ≤ t) (h1 : t ≤ epoch + 17592186044416) : Pc (if num = n then s else t) t (num + 1) := by
  right
  rcases h with ⟨_, _, h3⟩ | ⟨h3, h4, _, _⟩
  · rw [if_neg (by omega)]; exact ⟨h0, h1, h0, h1⟩
  · split
    · exact ⟨h3, h4, h0, h1⟩
    · exact ⟨h0, h1, h0, h1⟩
theorem pc_on {s e n num : Int} (h : Pc s e n) (hn : 0 ≤ num) (he : num = n) (n' : Int) : Pc s e n' := by
  rcases h with ⟨_, _, h3⟩ | h3
  · omega
  · exact .inr h3

theorem invC_mark {size : Int} {n : Nat} {c : Ctl} (h : InvC size n c) {k num t : Int} {b : Bool} (hn : 0 ≤ num) (h0 : epoch ≤ t) (h1 : t ≤ epoch + 17592186044416) : InvC size n (markC k c b num t) := by
  obtain ⟨a1, a2, a3, a4, a5, a6, a7, a8, a9, a10, a11⟩ := h
  unfold markC
  split
  · unfold mark0
    split
    · exact ⟨a1, a2, a3, a4, a5, a6, a7, a8, pc_mark a9 hn h0 h1, a10, a11⟩
    · split
      · exact ⟨a1, a2, a3, a4, a5, a6, a7, a8, pc_on a9 hn (by assumption) _, a10, a11⟩
      · exact ⟨a1, a2, a3, a4, a5, a6, a7, a8, a9, a10, a11⟩
  · split
    · unfold mark1
      split
      · exact ⟨a1, a2, a3, a4, a5, a6, a7, a8, a9, pc_mark a10 hn h0 h1, a11⟩
      · split
        · exact ⟨a1, a2, a3, a4, a5, a6, a7, a8, a9, pc_on a10 hn (by assumption) _, a11⟩
        · exact ⟨a1, a2, a3, a4, a5, a6, a7, a8, a9, a10, a11⟩
    · unfold mark2
      split
      · exact ⟨a1, a2, a3, a4, a5, a6, a7, a8, a9, a10, pc_mark a11 hn h0 h1⟩
      · split
        · exact ⟨a1, a2, a3, a4, a5, a6, a7, a8, a9, a10, pc_on a11 hn (by assumption) _⟩
        · exact ⟨a1, a2, a3, a4, a5, a6, a7, a8, a9, a10, a11⟩
theorem invC_loss {size : Int} {n : Nat} {c : Ctl} (h : InvC size n c) {sz t : Int} {inf : Bool} (h0 : 0 ≤ sz) (h1 : sz ≤ 65535) : InvC size (n + 1) (lossC c sz t inf) := by
  obtain ⟨a1, a2, a3, a4, a5, a6, a7, a8, a9, a10, a11⟩ := h
  unfold lossC
  split
  · refine ⟨a1, ?_, ?_, a4, ?_, a6, a7, a8, a9, a10, a11⟩ <;> simp only <;> omega
  · refine ⟨a1, ?_, ?_, a4, ?_, a6, a7, a8, a9, a10, a11⟩ <;> omega
theorem invC_endA {size : Int} {n : Nat} {c : Ctl} (h : InvC size n c) (hn : n ≤ 1000) (hs : 0 ≤ size) (now : Int) : InvC size n (endA c now) := by
  obtain ⟨a1, a2, a3, a4, a5, a6, a7, a8, a9, a10, a11⟩ := h
  unfold endA
  split
  · unfold enterC
    refine ⟨a1, a2, a3, ?_, ?_, ?_, ?_, ?_, a9, a10, a11⟩ <;> simp only [a1] <;> omega
  · split
    · unfold grownC
      have hf := firstStep_bd c a4
      have hg := grow_inv c.size (by omega) c.pend.toNat (c.window + firstStep c) (c.pend - firstStep c) (by omega) (by omega)
      refine ⟨a1, a2, a3, ?_, ?_, ?_, a7, a8, a9, a10, a11⟩ <;> simp only <;> omega
    · exact ⟨a1, a2, a3, a4, a5, a6, a7, a8, a9, a10, a11⟩
theorem invC_endB {size : Int} {n : Nat} {c : Ctl} (h : InvC size n c) (k : Int) (r : Rtt) (limit : Int) : InvC size (n + 1) (endB k c r limit) := by
  obtain ⟨a1, a2, a3, a4, a5, a6, a7, a8, a9, a10, a11⟩ := h
  unfold endB
  split
  · refine ⟨a1, ?_, ?_, a4, ?_, ?_, a7, a8, a9, a10, a11⟩ <;> simp only [a1] <;> omega
  · refine ⟨a1, ?_, ?_, a4, ?_, a6, a7, a8, a9, a10, a11⟩ <;> simp only <;> omega
theorem invR_endR {r : Rtt} (h : InvR r) (k : Int) (c : Ctl) (limit : Int) : InvR (endR k c r limit) := by
  obtain ⟨a1, a2, a3, a4, a5, a6, a7, a8⟩ := h
  unfold endR
  split
  · refine ⟨?_, a4, a3, a4, a5, a6, a7, a8⟩; simp only; omega
  · exact ⟨a1, a2, a3, a4, a5, a6, a7, a8⟩
theorem adjR_bd {r : Rtt} {v : Bool} {latest delay limit : Int} (hm : 0 ≤ r.least) (h0 : 0 ≤ latest) (h1 : latest ≤ 1099511627776) (d0 : 0 ≤ delay) (l0 : 0 ≤ limit) :
    0 ≤ adjR r v latest delay limit ∧ adjR r v latest delay limit ≤ 1099511627776 := by
  unfold adjR
  cases v <;> simp only [if_true, Bool.false_eq_true, if_false] <;> split <;> omega
theorem invR_sample {r : Rtt} (h : InvR r) {now latest delay limit : Int} {v : Bool} (h0 : 0 ≤ latest) (h1 : latest ≤ 1099511627776) (d0 : 0 ≤ delay) (l0 : 0 ≤ limit) : InvR (sampleR r now v latest delay limit) := by
  obtain ⟨a1, a2, a3, a4, a5, a6, a7, a8⟩ := h
  unfold sampleR
  split
  · refine ⟨?_, h1, h0, h1, h0, h1, ?_, ?_⟩ <;> simp only <;> omega
  · have := adjR_bd (v := v) (by omega : 0 ≤ r.least) h0 h1 d0 l0
    refine ⟨?_, ?_, h0, h1, ?_, ?_, ?_, ?_⟩ <;> simp only
    · omega
    · omega
    · omega
    · omega
    · split <;> omega
    · split <;> omega

theorem tm_bd {t : Int} (h0 : 0 ≤ t) (h1 : t ≤ 17592186044416) : epoch ≤ tm t ∧ tm t ≤ epoch + 17592186044416 := by unfold tm; omega

theorem inv_step {size : Int} {n : Nat} {s : St} {o : Call} (hn : n ≤ 1000) (hs : 0 ≤ size) (hc : InvC size n s.c) (hr : InvR s.r) (g : Good o) : InvC size (n + 1) (stepM s o).c ∧ InvR (stepM s o).r := by
  unfold stepM
  split
  · exact ⟨invC_sent hc g.size0 g.size1, hr⟩
  split
  · exact ⟨invC_ack hc g.size0 g.size1, hr⟩
  split
  · have ht := tm_bd g.time0 g.time1
    exact ⟨invC_loss (invC_mark hc g.num0 ht.1 ht.2) g.size0 g.size1, hr⟩
  split
  · exact ⟨invC_disc hc g.size0 g.size1, hr⟩
  split
  · exact ⟨invC_endB (invC_endA hc hn hs _) _ _ _, invR_endR hr _ _ _⟩
  split
  · exact ⟨invC_under hc _, hr⟩
  split
  · exact ⟨invC_same hc, invR_sample hr g.lat0 g.lat1 g.del0 g.lim0⟩
  · exact ⟨invC_same hc, hr⟩

theorem inv_at (size : Int) (h0 : 1200 ≤ size) (h1 : size ≤ 65527) (ops : List Call) (hl : ops.length ≤ 1000) (hg : ∀ o ∈ ops, Good o) : ∀ k, k ≤ ops.length → InvC size k (stAt size ops k).c ∧ InvR (stAt size ops k).r
  | 0, _ => ⟨invC_new size h0 h1, invR_new⟩
  | k + 1, hk => by
    have ih := inv_at size h0 h1 ops hl hg k (by omega)
    rw [stAt_succ size ops (by omega)]
    exact inv_step (by omega) (by omega) ih.1 ih.2 (hg _ (List.getElem_mem _))

end Go.Proofs.Ytpaociigfbibbaa
