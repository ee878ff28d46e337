/-
  ZZRun: the calls, one behind the other, and the state behind each.
-/
import Derived.Test.YtpaociigfbibbaaNew
import Derived.Test.YtpaociigfbibbaaWords
import Derived.Deep.CutBlock
namespace Go.Proofs.Ytpaociigfbibbaa
open Go.RowKit
attribute [local go_sem ↓] Go.wp_at_zero Go.wp_at_succ

def rowCells (s : St) : List Value := (outCells s.c s.r).toList
def rows (size : Int) (ops : List Call) (n : Nat) : List Value := (List.range n).flatMap fun i => rowCells (stAt size ops i)
theorem rows_succ (size : Int) (ops : List Call) (n : Nat) : rows size ops (n + 1) = rows size ops n ++ rowCells (stAt size ops n) := by
  simp [rows, List.range_succ]
theorem rowCells_length (s : St) : (rowCells s).length = 11 := rfl
theorem oneCell_row (s : St) : ∀ u ∈ rowCells s, u.oneCell' = true := by
  intro u hu
  simp only [rowCells, outCells, List.mem_cons, List.not_mem_nil, or_false] at hu
  rcases hu with rfl | rfl | rfl | rfl | rfl | rfl | rfl | rfl | rfl | rfl | rfl <;> rfl

/-- The controller, the estimates, and the two captured variables that lead to them. -/
structure Env (w : World) (g b5 gr b6 : Nat) (s : St) : Prop where
  c : Blk w g 63 (ctlCells s.c)
  r : Blk w gr 58 (rttCells s.r)
  p5 : Blk w b5 50 #[.pointer (some ⟨g, 0, none⟩)]
  p6 : Blk w b6 52 #[.pointer (some ⟨gr, 0, none⟩)]
theorem Env.later {w w' : World} {g b5 gr b6 : Nat} {s : St} (h : Env w g b5 gr b6 s) (hb : Below w.heap.size w w') : Env w' g b5 gr b6 s := ⟨h.c.later hb, h.r.later hb, h.p5.later hb, h.p6.later hb⟩
theorem Env.alloc {w : World} {g b5 gr b6 : Nat} {s : St} (h : Env w g b5 gr b6 s) (o : Obj) : Env (w.alloc o) g b5 gr b6 s := ⟨h.c.alloc o, h.r.alloc o, h.p5.alloc o, h.p6.alloc o⟩
theorem own_new (w : World) (base : Nat) (e : TypeId) (size : Nat) (cs : Array Value) (hs : cs.size = size) (hb : base ≤ w.heap.size) :
    (w.alloc (.cells cs e)).ownsRow base e size (.slice (some ⟨w.heap.size, 0, none⟩) 1 1) 1 cs.toList := by
  refine ⟨by simpa using hs, .inr ⟨w.heap.size, 1, cs, rfl, hb, heap_alloc_new w _, Nat.le_refl _, by unfold maxLen; omega, by omega, ?_⟩⟩
  rw [Nat.one_mul, ← hs]
  exact List.take_of_length_le (by simp)

theorem own_only {w w' : World} {base : Nat} {e : TypeId} {size n : Nat} {v : Value} {xs : List Value} {g q : Nat} {t t' : TypeId} {cs cs' : Array Value} (h : w.ownsRow base e size v n xs) (ho : Only g q w w')
    (hg : Blk w g t cs) (hne : t ≠ e) (hq : Blk w q t' cs') (hne' : t' ≠ e) : w'.ownsRow base e size v n xs := by
  refine ⟨h.1, ?_⟩
  rcases h.2 with h0 | ⟨b, cap, cur, hv, hb, hh, h3⟩
  · exact .inl h0
  · have hB : Blk w b e cur := hh
    exact .inr ⟨b, cap, cur, hv, hb, ho.blk hB (hB.apart hg (Ne.symm hne)) (hB.apart hq (Ne.symm hne')), h3⟩
theorem Env.kept {w w' : World} {g b5 gr b6 : Nat} {s s' : St} (h : Env w g b5 gr b6 s) (ho : Only g gr w w') (hc : Blk w' g 63 (ctlCells s'.c)) (hr : Blk w' gr 58 (rttCells s'.r)) : Env w' g b5 gr b6 s' :=
  ⟨hc, hr, ho.blk h.p5 (h.p5.apart h.c (by decide)) (h.p5.apart h.r (by decide)), ho.blk h.p6 (h.p6.apart h.c (by decide)) (h.p6.apart h.r (by decide))⟩
theorem Only.widen {g q : Nat} {w w' : World} (h : Only g g w w') : Only g q w w' := ⟨h.os, h.tape, h.output, h.size, fun k hk h1 _ => h.block k hk h1 h1⟩
theorem Only.widen2 {g q : Nat} {w w' : World} (h : Only q q w w') : Only g q w w' := ⟨h.os, h.tape, h.output, h.size, fun k hk _ h2 => h.block k hk h2 h2⟩

theorem pc_space {size : Int} {n : Nat} {c : Ctl} (h : InvC size n c) (k : Int) : 0 ≤ sOf k c ∧ sOf k c ≤ 1000000000000000000000000000 ∧ -2305843009213693952 ≤ eOf k c - sOf k c ∧ eOf k c - sOf k c ≤ 2305843009213693952 := by
  have hp : ∀ s e n : Int, Pc s e n → 0 ≤ s ∧ s ≤ 1000000000000000000000000000 ∧ -2305843009213693952 ≤ e - s ∧ e - s ≤ 2305843009213693952 := by
    intro s e n hp
    rcases hp with ⟨h1, h2, _⟩ | ⟨h1, h2, h3, h4⟩
    · omega
    · unfold epoch at *; omega
  unfold sOf eOf
  split
  · exact hp _ _ _ h.pc0
  · split
    · exact hp _ _ _ h.pc1
    · exact hp _ _ _ h.pc2
theorem sample_any (gr : Nat) (r : Rtt) (now : Int) (o : Call) (w : World) (hR : Blk w gr 58 (rttCells r)) (hi : InvR r) (hg : Good o) :
    Calls Try.prog 32 #[.pointer (some ⟨gr, 0, none⟩), .agg #[.int .u64 (wl now), .int .i64 (ex now)], .bool o.v, .int .u8 o.space, .int .i64 o.latest, .int .i64 o.delay, .int .i64 o.limit] w fun e w' =>
      e = .returned (.tuple #[]) ∧ Blk w' gr 58 (rttCells (sampleR r now o.v o.latest o.delay o.limit)) ∧ Only gr gr w w' := by
  by_cases h : r.least < 0
  · exact sample_first gr gr r now o.latest o.delay o.limit o.v o.space w hR hg.lat0 hg.lat1 h
  · exact sample_next gr gr r now o.latest o.delay o.limit o.v o.space w hR hg.lat0 hg.lat1 hg.del0 hg.del1 hg.lim0 hg.lim1 hi.s0 hi.s1 hi.d0 hi.d1 (by omega) hi.l1

set_option maxRecDepth 100000 in
set_option maxHeartbeats 16000000 in
theorem zz_any (size : Int) (A : Option Addr) (cap : Nat) (ops : List Call) (w : World) (hops : OpsAt w w.heap.size A ops) (hlen : ops.length ≤ 1000) (h0 : 1200 ≤ size) (h1 : size ≤ 65527) (hg : ∀ o ∈ ops, Good o) :
    Calls Try.prog 16 #[.int .i64 size, .slice A ops.length cap] w fun e w' => ∃ g cap', e = .returned (.slice (some ⟨g, 0, none⟩) (ops.length + 1) cap') ∧
      w'.ownsRow w.heap.size 47 11 (.slice (some ⟨g, 0, none⟩) (ops.length + 1) cap') (ops.length + 1) (rows size ops (ops.length + 1)) ∧ Below w.heap.size w w' := by
  obtain ⟨i0, hi, hz0, hz1, hz2⟩ := info_parts Try.info47
  have Hinv := Lib.hid (inv_at size h0 h1 ops hlen hg)
  have Hgood := Lib.hid hg
  clear hg
  go_enter Try.func16, Try.ntmps16
  go_upto_region 3 with (go_at_call 19; refine (newReno_any size _ h0 h1).mono ?_; rintro e w1 ⟨rfl, rfl⟩)
  refine wp_forget (fun w' => Blk w' w.heap.size 63 (ctlCells (newC size)) ∧ Blk w' (w.heap.size + 1) 50 #[.pointer (some ⟨w.heap.size, 0, none⟩)] ∧ Blk w' (w.heap.size + 1 + 1) 58 (rttCells zeroR) ∧
      Blk w' (w.heap.size + 1 + 1 + 1) 52 #[.pointer (some ⟨w.heap.size + 1 + 1, 0, none⟩)] ∧ Below w.heap.size w w')
    ⟨(((Blk.new w _ _).alloc _).alloc _).alloc _, by simpa using ((Blk.new (w.alloc _) 50 _).alloc _).alloc _, blk_eq (cs := #[.int .i64 0, .int .i64 0, .int .i64 0, .int .i64 0, .int .u64 0, .int .i64 0]) (by simpa using (Blk.new ((w.alloc _).alloc _) 58 #[.int .i64 0, .int .i64 0, .int .i64 0, .int .i64 0, .int .u64 0, .int .i64 0]).alloc _) rfl, by simpa using Blk.new (((w.alloc _).alloc _).alloc _) 52 _,
      ((((Below.refl _ _).alloc (Nat.le_refl _) _).alloc (by simp) _).alloc (by simp; omega) _).alloc (by simp; omega) _⟩ ?_
  intro W hS
  obtain ⟨b1, b2, b3, b4, b5⟩ := hS
  have k1 : W.cell? ⟨w.heap.size + 1 + 1 + 1, 0, none⟩ = some (.pointer (some ⟨w.heap.size + 1 + 1, 0, none⟩)) := b4.cell 0
  go_wp2_with (first | (go_at_call 20; refine (init_any _ _ b3).mono ?_; rintro e w1 ⟨rfl, hr1, ho1⟩) | fail)
  have ho := ho1 (w.heap.size + 1 + 1)
  have e1 : Env w1 w.heap.size (w.heap.size + 1) (w.heap.size + 1 + 1) (w.heap.size + 1 + 1 + 1) (s0 size) := ⟨ho.blk b1 (by omega) (by omega), hr1, ho.blk b2 (by omega) (by omega), ho.blk b4 (by omega) (by omega)⟩
  have hb1 : Below w.heap.size w w1 := b5.trans (ho.toBelow b5.size (by omega) (by omega))
  clear b1 b2 b3 b4 b5 k1 hr1 ho1 ho
  refine (look_any (w.heap.size + 1) (w.heap.size + 1 + 1 + 1) w.heap.size (w.heap.size + 1 + 1) (newC size) newR _ e1.c e1.r e1.p5 e1.p6 (by show 0 ≤ size; omega) (by show size ≤ 65535; omega) (by show -4611686018427387904 ≤ (0 : Int); omega) (by show (0 : Int) ≤ 4611686018427387904; omega)).mono ?_
  unfold outCells
  rintro e w2 ⟨rfl, hb2⟩
  have e2 := e1.later hb2
  have hb := below_on hb1 hb1.size hb2
  clear e1 hb1 hb2
  go_wp2_with fail
  go_loopg [8, 24] ops.length (fun n l i wr => ∃ k : Nat, k ≤ ops.length ∧ n = ops.length - k ∧ i = .int .i64 k ∧ (∃ g cap', l = .slice (some ⟨g, 0, none⟩) (k + 1) cap') ∧ wr.ownsRow w.heap.size 47 11 l (k + 1) (rows size ops (k + 1)) ∧
      Env wr w.heap.size (w.heap.size + 1) (w.heap.size + 1 + 1) (w.heap.size + 1 + 1 + 1) (stAt size ops k) ∧ Below w.heap.size w wr)
  case atStart => exact ⟨0, by omega, by omega, rfl, ⟨_, _, rfl⟩, own_new w2 w.heap.size 47 11 (outCells (newC size) newR) rfl hb.size, e2.alloc _, hb.alloc hb.size _⟩
  case round =>
    obtain ⟨k, hk, hn, rfl, ⟨g0, cap0, rfl⟩, hown, e1, hb1⟩ := hrel
    clear e2 hb
    have hbs := hb1.size
    by_cases hlt : k < ops.length
    · obtain ⟨b, off, rfl, hbB, hc⟩ := hops (by omega)
      obtain ⟨o, ho⟩ : ∃ o, ops[k] = o := ⟨_, rfl⟩
      have x0 : wr.cell? ⟨b, off + k * 12, none⟩ = some (.int .i64 o.kind) := (hb1.cell (p := ⟨b, _, none⟩) hbB).trans (hc k hlt 0 _ (by rw [ho]; rfl))
      have x1 : wr.cell? ⟨b, off + k * 12 + 1, none⟩ = some (.int .i64 o.space) := (hb1.cell (p := ⟨b, _, none⟩) hbB).trans (hc k hlt 1 _ (by rw [ho]; rfl))
      have x2 : wr.cell? ⟨b, off + k * 12 + 2, none⟩ = some (.int .i64 o.now) := (hb1.cell (p := ⟨b, _, none⟩) hbB).trans (hc k hlt 2 _ (by rw [ho]; rfl))
      have x3 : wr.cell? ⟨b, off + k * 12 + 3, none⟩ = some (.int .i64 o.time) := (hb1.cell (p := ⟨b, _, none⟩) hbB).trans (hc k hlt 3 _ (by rw [ho]; rfl))
      have x4 : wr.cell? ⟨b, off + k * 12 + 4, none⟩ = some (.int .i64 o.num) := (hb1.cell (p := ⟨b, _, none⟩) hbB).trans (hc k hlt 4 _ (by rw [ho]; rfl))
      have x5 : wr.cell? ⟨b, off + k * 12 + 5, none⟩ = some (.int .i64 o.size) := (hb1.cell (p := ⟨b, _, none⟩) hbB).trans (hc k hlt 5 _ (by rw [ho]; rfl))
      have x6 : wr.cell? ⟨b, off + k * 12 + 6, none⟩ = some (.bool o.el) := (hb1.cell (p := ⟨b, _, none⟩) hbB).trans (hc k hlt 6 _ (by rw [ho]; rfl))
      have x7 : wr.cell? ⟨b, off + k * 12 + 7, none⟩ = some (.bool o.inf) := (hb1.cell (p := ⟨b, _, none⟩) hbB).trans (hc k hlt 7 _ (by rw [ho]; rfl))
      have x8 : wr.cell? ⟨b, off + k * 12 + 8, none⟩ = some (.bool o.v) := (hb1.cell (p := ⟨b, _, none⟩) hbB).trans (hc k hlt 8 _ (by rw [ho]; rfl))
      have x9 : wr.cell? ⟨b, off + k * 12 + 9, none⟩ = some (.int .i64 o.latest) := (hb1.cell (p := ⟨b, _, none⟩) hbB).trans (hc k hlt 9 _ (by rw [ho]; rfl))
      have x10 : wr.cell? ⟨b, off + k * 12 + 10, none⟩ = some (.int .i64 o.delay) := (hb1.cell (p := ⟨b, _, none⟩) hbB).trans (hc k hlt 10 _ (by rw [ho]; rfl))
      have x11 : wr.cell? ⟨b, off + k * 12 + 11, none⟩ = some (.int .i64 o.limit) := (hb1.cell (p := ⟨b, _, none⟩) hbB).trans (hc k hlt 11 _ (by rw [ho]; rfl))
      have Hstep := Lib.hid (show stAt size ops (k + 1) = stepM (stAt size ops k) o by rw [stAt_succ size ops hlt, ho])
      have Hg := Lib.hid (show Good o from ho ▸ Hgood.out _ (List.getElem_mem hlt))
      have hsp : o.space % 3 = o.space := by have := Hg.out.sp0; have := Hg.out.sp1; omega
      have hsp0 := Hg.out.sp0
      have hsp1 := Hg.out.sp1
      have Hn := Lib.hid hn
      clear ho hn hc
      go_upto_region 10 with (fail)
      refine wp_forget (fun w' => Env w' w.heap.size (w.heap.size + 1) (w.heap.size + 1 + 1) (w.heap.size + 1 + 1 + 1) (stAt size ops k) ∧ w'.ownsRow w.heap.size 47 11 (.slice (some ⟨g0, 0, none⟩) (k + 1) cap0) (k + 1) (rows size ops (k + 1)) ∧
          Blk w' wr.heap.size 44 (opVals o).toArray ∧ Below w.heap.size w w') ⟨e1.alloc _, hown.alloc _, Blk.new _ _ _, hb1.alloc hbs _⟩ ?_
      intro W3 hS
      obtain ⟨e2, hown2, hbo, hb2⟩ := hS
      clear x0 x1 x2 x3 x4 x5 x6 x7 x8 x9 x10 x11 e1 hown hb1
      go_cut [12] (fun s w' => ∃ gp, s = .pointer (some ⟨gp, 0, none⟩) ∧ Blk w' gp 73 (packetCells o.num o.size (tm o.time) o.el o.inf) ∧ Below W3.heap.size W3 w')
      case first =>
        have HK : ∀ w' : World, Below W3.heap.size W3 w' → w'.cell? ⟨wr.heap.size, 3, none⟩ = some (.int .i64 o.time) ∧ w'.cell? ⟨wr.heap.size, 4, none⟩ = some (.int .i64 o.num) ∧ w'.cell? ⟨wr.heap.size, 5, none⟩ = some (.int .i64 o.size) ∧
            w'.cell? ⟨wr.heap.size, 6, none⟩ = some (.bool o.el) ∧ w'.cell? ⟨wr.heap.size, 7, none⟩ = some (.bool o.inf) :=
          fun w' hw => ⟨(hbo.later hw).cell 3, (hbo.later hw).cell 4, (hbo.later hw).cell 5, (hbo.later hw).cell 6, (hbo.later hw).cell 7⟩
        have HT : ∀ W, Calls Try.prog 25 #[.int .i64 o.time] W fun e w' => e = .returned (.agg #[.int .u64 (wl (tm o.time)), .int .i64 (ex (tm o.time))]) ∧ Below W.heap.size W w' :=
          fun W => zzTime_any o.time W Hg.out.time0 (by have := Hg.out.time1; omega)
        have Hk := Lib.hid HK
        have Ht := Lib.hid HT
        clear HK HT hsp
        go_region_held3 (fun w' => w'.cell? ⟨wr.heap.size, 3, none⟩ = some (.int .i64 o.time) ∧ w'.cell? ⟨wr.heap.size, 4, none⟩ = some (.int .i64 o.num) ∧ w'.cell? ⟨wr.heap.size, 5, none⟩ = some (.int .i64 o.size) ∧
            w'.cell? ⟨wr.heap.size, 6, none⟩ = some (.bool o.el) ∧ w'.cell? ⟨wr.heap.size, 7, none⟩ = some (.bool o.inf))
          (first | exact Hk.out _ (Below.refl _ _).drew | exact Hk.out _ (below_on_drew (Below.refl _ _) (Nat.le_refl _) hb) | exact Hk.out _ ((below_on_drew (Below.refl _ _) (Nat.le_refl _) hb).alloc hb.size _))
          (first | (go_at_call 25; refine (Ht.out _).mono ?_; rintro e w1 ⟨rfl, hb⟩))
        go_wp2_with fail
        go_meet
        exact ⟨w1.heap.size, rfl, Blk.new _ _ _, (below_on_drew (Below.refl _ _) (Nat.le_refl _) hb).alloc hb.size _⟩
      case rest =>
        obtain ⟨gp, rfl, hgp3, hb3⟩ := hcut
        have e3 := e2.later hb3
        have hown3 := own_keep hown2 hb3
        have hbo3 := hbo.later hb3
        have hb4 := below_on hb2 hb2.size hb3
        clear e2 hown2 hbo hb2 hb3
        have x0 : wc.cell? ⟨wr.heap.size, 0, none⟩ = some (.int .i64 o.kind) := hbo3.cell 0
        go_upto_block 2 with (fail)
        clear x0
        go_cut [] (fun w' => Env w' w.heap.size (w.heap.size + 1) (w.heap.size + 1 + 1) (w.heap.size + 1 + 1 + 1) (stAt size ops (k + 1)) ∧ w'.ownsRow w.heap.size 47 11 (.slice (some ⟨g0, 0, none⟩) (k + 1) cap0) (k + 1) (rows size ops (k + 1)) ∧ Below w.heap.size w w')
        case first =>
          obtain ⟨s, hs⟩ : ∃ s, stAt size ops k = s := ⟨_, rfl⟩
          rw [hs] at e3
          have hinv := Hinv.out k hk
          rw [hs] at hinv
          obtain ⟨hic, hir⟩ := hinv
          have Hs2 := Lib.hid (show stAt size ops (k + 1) = stepM s o by rw [Hstep.out, hs])
          have Hic := Lib.hid hic
          have Hir := Lib.hid hir
          clear hs hic hir
          have lbo := hbo3.lt
          have lg := e3.c.lt
          have l5 := e3.p5.lt
          have l6 := e3.p6.lt
          have lr := e3.r.lt
          have nbo : wr.heap.size ≠ w.heap.size := hbo3.apart e3.c (by decide)
          have nbr : wr.heap.size ≠ w.heap.size + 1 + 1 := hbo3.apart e3.r (by decide)
          have HK : ∀ w' : World, Below wc.heap.size wc w' → w'.cell? ⟨w.heap.size + 1, 0, none⟩ = some (.pointer (some ⟨w.heap.size, 0, none⟩)) ∧ w'.cell? ⟨w.heap.size + 1 + 1 + 1, 0, none⟩ = some (.pointer (some ⟨w.heap.size + 1 + 1, 0, none⟩)) ∧ w'.cell? ⟨wr.heap.size, 2, none⟩ = some (.int .i64 o.now) ∧ w'.cell? ⟨wr.heap.size, 8, none⟩ = some (.bool o.v) ∧ w'.cell? ⟨wr.heap.size, 9, none⟩ = some (.int .i64 o.latest) ∧ w'.cell? ⟨wr.heap.size, 10, none⟩ = some (.int .i64 o.delay) ∧ w'.cell? ⟨wr.heap.size, 11, none⟩ = some (.int .i64 o.limit) :=
            fun w' hw => ⟨(e3.p5.later hw).cell 0, (e3.p6.later hw).cell 0, (hbo3.later hw).cell 2, (hbo3.later hw).cell 8, (hbo3.later hw).cell 9, (hbo3.later hw).cell 10, (hbo3.later hw).cell 11⟩
          have HKO : ∀ w1 w' : World, Below wc.heap.size wc w1 → Only w.heap.size (w.heap.size + 1 + 1) w1 w' → w'.cell? ⟨w.heap.size + 1, 0, none⟩ = some (.pointer (some ⟨w.heap.size, 0, none⟩)) ∧ w'.cell? ⟨w.heap.size + 1 + 1 + 1, 0, none⟩ = some (.pointer (some ⟨w.heap.size + 1 + 1, 0, none⟩)) ∧ w'.cell? ⟨wr.heap.size, 2, none⟩ = some (.int .i64 o.now) ∧ w'.cell? ⟨wr.heap.size, 8, none⟩ = some (.bool o.v) ∧ w'.cell? ⟨wr.heap.size, 9, none⟩ = some (.int .i64 o.latest) ∧ w'.cell? ⟨wr.heap.size, 10, none⟩ = some (.int .i64 o.delay) ∧ w'.cell? ⟨wr.heap.size, 11, none⟩ = some (.int .i64 o.limit) :=
            fun w1 w' hw ho => ⟨(ho.blk (e3.p5.later hw) (by omega) (by omega)).cell 0, (ho.blk (e3.p6.later hw) (by omega) (by omega)).cell 0, (ho.blk (hbo3.later hw) nbo nbr).cell 2, (ho.blk (hbo3.later hw) nbo nbr).cell 8, (ho.blk (hbo3.later hw) nbo nbr).cell 9, (ho.blk (hbo3.later hw) nbo nbr).cell 10, (ho.blk (hbo3.later hw) nbo nbr).cell 11⟩
          have HT : ∀ W, Calls Try.prog 25 #[.int .i64 o.now] W fun e w' => e = .returned (.agg #[.int .u64 (wl (tm o.now)), .int .i64 (ex (tm o.now))]) ∧ Below W.heap.size W w' :=
            fun W => zzTime_any o.now W Hg.out.now0 (by have := Hg.out.now1; omega)
          have Hk := Lib.hid HK
          have Hko := Lib.hid HKO
          have Ht := Lib.hid HT
          clear HK HKO HT hsp
          have HF : ∀ (w1 w' : World) (s' : St), Below wc.heap.size wc w1 → Only w.heap.size (w.heap.size + 1 + 1) w1 w' → Blk w' w.heap.size 63 (ctlCells s'.c) → Blk w' (w.heap.size + 1 + 1) 58 (rttCells s'.r) → stepM s o = s' →
              Env w' w.heap.size (w.heap.size + 1) (w.heap.size + 1 + 1) (w.heap.size + 1 + 1 + 1) (stAt size ops (k + 1)) ∧ w'.ownsRow w.heap.size 47 11 (.slice (some ⟨g0, 0, none⟩) (k + 1) cap0) (k + 1) (rows size ops (k + 1)) ∧ Below w.heap.size w w' := by
            intro w1 w' s' hw ho hc' hr' hst
            rw [Hs2.out, hst]
            exact ⟨(e3.later hw).kept ho hc' hr', own_only (own_keep hown3 hw) ho (e3.later hw).c (by decide) (e3.later hw).r (by decide), (below_on hb4 hb4.size hw).trans (ho.toBelow (Nat.le_trans hb4.size hw.size) (Nat.le_refl _) (by omega))⟩
          have Hf := Lib.hid HF
          clear HF
          by_cases hkind : o.kind = 0 ∨ o.kind = 1 ∨ o.kind = 2 ∨ o.kind = 3 ∨ o.kind = 4 ∨ o.kind = 5 ∨ o.kind = 6
          · rcases hkind with hkind | hkind | hkind | hkind | hkind | hkind | hkind
            · have Hkd := Lib.hid hkind
              have hk0 : (o.kind == 0) = true := by rw [hkind]; rfl
              clear hkind
              go_upto_region 13 with (fail)
              go_region_held3 (fun w' => w'.cell? ⟨w.heap.size + 1, 0, none⟩ = some (.pointer (some ⟨w.heap.size, 0, none⟩)) ∧ w'.cell? ⟨w.heap.size + 1 + 1 + 1, 0, none⟩ = some (.pointer (some ⟨w.heap.size + 1 + 1, 0, none⟩)) ∧ w'.cell? ⟨wr.heap.size, 2, none⟩ = some (.int .i64 o.now) ∧ w'.cell? ⟨wr.heap.size, 8, none⟩ = some (.bool o.v) ∧ w'.cell? ⟨wr.heap.size, 9, none⟩ = some (.int .i64 o.latest) ∧ w'.cell? ⟨wr.heap.size, 10, none⟩ = some (.int .i64 o.delay) ∧ w'.cell? ⟨wr.heap.size, 11, none⟩ = some (.int .i64 o.limit))
                (first | exact Hk.out _ (Below.refl _ _).drew | exact Hk.out _ (below_on_drew (Below.refl _ _) (Nat.le_refl _) hb) | exact Hko.out _ _ (below_on_drew (Below.refl _ _) (Nat.le_refl _) hb) hO)
                (first | (go_at_call 25; refine (Ht.out _).mono ?_; rintro e w1 ⟨rfl, hb⟩) | (go_at_call 26; refine (packetSent_any w.heap.size gp w.heap.size s.c o.num o.size (tm o.time) (tm o.now) o.el o.inf o.space _ (e3.c.later (below_on_drew (Below.refl _ _) (Nat.le_refl _) hb)) (hgp3.later (below_on_drew (Below.refl _ _) (Nat.le_refl _) hb)) (by have := Hic.out.fl0; omega) (by have := Hic.out.fl1; omega) Hg.out.size0 Hg.out.size1).mono ?_; rintro e w2 ⟨rfl, hC, hO1⟩; have hO : Only w.heap.size (w.heap.size + 1 + 1) w1 w2 := hO1.widen))
              go_wp2_with fail
              go_meet
              exact Hf.out _ _ ⟨sentC s.c o.size o.inf, s.r⟩ (below_on_drew (Below.refl _ _) (Nat.le_refl _) hb) hO hC (hO1.blk (e3.r.later (below_on_drew (Below.refl _ _) (Nat.le_refl _) hb)) (by omega) (by omega)) (by simp [stepM, Hkd.out])
            · have Hkd := Lib.hid hkind
              have hk0 : (o.kind == 0) = false := by rw [hkind]; rfl
              have hk1 : (o.kind == 1) = true := by rw [hkind]; rfl
              clear hkind
              go_upto_region 15 with (fail)
              go_region_held3 (fun w' => w'.cell? ⟨w.heap.size + 1, 0, none⟩ = some (.pointer (some ⟨w.heap.size, 0, none⟩)) ∧ w'.cell? ⟨w.heap.size + 1 + 1 + 1, 0, none⟩ = some (.pointer (some ⟨w.heap.size + 1 + 1, 0, none⟩)) ∧ w'.cell? ⟨wr.heap.size, 2, none⟩ = some (.int .i64 o.now) ∧ w'.cell? ⟨wr.heap.size, 8, none⟩ = some (.bool o.v) ∧ w'.cell? ⟨wr.heap.size, 9, none⟩ = some (.int .i64 o.latest) ∧ w'.cell? ⟨wr.heap.size, 10, none⟩ = some (.int .i64 o.delay) ∧ w'.cell? ⟨wr.heap.size, 11, none⟩ = some (.int .i64 o.limit))
                (first | exact Hk.out _ (Below.refl _ _).drew | exact Hk.out _ (below_on_drew (Below.refl _ _) (Nat.le_refl _) hb) | exact Hko.out _ _ (below_on_drew (Below.refl _ _) (Nat.le_refl _) hb) hO)
                (first | (go_at_call 25; refine (Ht.out _).mono ?_; rintro e w1 ⟨rfl, hb⟩) | (go_at_call 27; refine (packetAcked_any w.heap.size gp w.heap.size s.c o.num o.size (tm o.time) (tm o.now) o.el o.inf _ (e3.c.later (below_on_drew (Below.refl _ _) (Nat.le_refl _) hb)) (hgp3.later (below_on_drew (Below.refl _ _) (Nat.le_refl _) hb)) (by have := Hic.out.fl0; omega) (by have := Hic.out.fl1; omega) Hg.out.size0 Hg.out.size1 Hic.out.p0 (by have := Hic.out.wp; have := Hic.out.w0; omega)).mono ?_; rintro e w2 ⟨rfl, hC, hO1⟩; have hO : Only w.heap.size (w.heap.size + 1 + 1) w1 w2 := hO1.widen))
              go_wp2_with fail
              go_meet
              exact Hf.out _ _ ⟨ackC s.c o.size (tm o.time) o.inf, s.r⟩ (below_on_drew (Below.refl _ _) (Nat.le_refl _) hb) hO hC (hO1.blk (e3.r.later (below_on_drew (Below.refl _ _) (Nat.le_refl _) hb)) (by omega) (by omega)) (by simp [stepM, Hkd.out])
            · have Hkd := Lib.hid hkind
              have hk0 : (o.kind == 0) = false := by rw [hkind]; rfl
              have hk1 : (o.kind == 1) = false := by rw [hkind]; rfl
              have hk2 : (o.kind == 2) = true := by rw [hkind]; rfl
              clear hkind
              go_upto_region 17 with (fail)
              go_region_held3 (fun w' => w'.cell? ⟨w.heap.size + 1, 0, none⟩ = some (.pointer (some ⟨w.heap.size, 0, none⟩)) ∧ w'.cell? ⟨w.heap.size + 1 + 1 + 1, 0, none⟩ = some (.pointer (some ⟨w.heap.size + 1 + 1, 0, none⟩)) ∧ w'.cell? ⟨wr.heap.size, 2, none⟩ = some (.int .i64 o.now) ∧ w'.cell? ⟨wr.heap.size, 8, none⟩ = some (.bool o.v) ∧ w'.cell? ⟨wr.heap.size, 9, none⟩ = some (.int .i64 o.latest) ∧ w'.cell? ⟨wr.heap.size, 10, none⟩ = some (.int .i64 o.delay) ∧ w'.cell? ⟨wr.heap.size, 11, none⟩ = some (.int .i64 o.limit))
                (first | exact Hk.out _ (Below.refl _ _).drew | exact Hk.out _ (below_on_drew (Below.refl _ _) (Nat.le_refl _) hb) | exact Hko.out _ _ (below_on_drew (Below.refl _ _) (Nat.le_refl _) hb) hO)
                (first | (go_at_call 25; refine (Ht.out _).mono ?_; rintro e w1 ⟨rfl, hb⟩) | (go_at_call 28; refine (packetLost_any o.space hsp0 hsp1 w.heap.size gp (w.heap.size + 1 + 1) s.c s.r o.num o.size (tm o.time) (tm o.now) o.el o.inf _ (e3.c.later (below_on_drew (Below.refl _ _) (Nat.le_refl _) hb)) (hgp3.later (below_on_drew (Below.refl _ _) (Nat.le_refl _) hb)) (e3.r.later (below_on_drew (Below.refl _ _) (Nat.le_refl _) hb)) (by have := Hic.out.fl0; omega) (by have := Hic.out.fl1; omega) Hg.out.size0 Hg.out.size1 Hg.out.num0 Hg.out.num1).mono ?_; rintro e w2 ⟨rfl, hC, hR2, hO⟩))
              go_wp2_with fail
              go_meet
              exact Hf.out _ _ ⟨lossC (markC o.space s.c (validB s.r.first (tm o.time) o.el) o.num (tm o.time)) o.size (tm o.time) o.inf, s.r⟩ (below_on_drew (Below.refl _ _) (Nat.le_refl _) hb) hO hC hR2 (by simp [stepM, Hkd.out])
            · have Hkd := Lib.hid hkind
              have hk0 : (o.kind == 0) = false := by rw [hkind]; rfl
              have hk1 : (o.kind == 1) = false := by rw [hkind]; rfl
              have hk2 : (o.kind == 2) = false := by rw [hkind]; rfl
              have hk3 : (o.kind == 3) = true := by rw [hkind]; rfl
              clear hkind
              have y1 : wc.cell? ⟨w.heap.size + 1, 0, none⟩ = some (.pointer (some ⟨w.heap.size, 0, none⟩)) := e3.p5.cell 0
              go_wp2_with (go_at_call 29; refine (packetDiscarded_any w.heap.size gp w.heap.size s.c o.num o.size (tm o.time) o.el o.inf _ e3.c hgp3 (by have := Hic.out.fl0; omega) (by have := Hic.out.fl1; omega) Hg.out.size0 Hg.out.size1).mono ?_; rintro e w2 ⟨rfl, hC, hO1⟩)
              go_meet
              exact Hf.out _ _ ⟨discC s.c o.size o.inf, s.r⟩ (Below.refl _ _) hO1.widen hC (hO1.blk e3.r (by omega) (by omega)) (by simp [stepM, Hkd.out])
            · have Hkd := Lib.hid hkind
              have hk0 : (o.kind == 0) = false := by rw [hkind]; rfl
              have hk1 : (o.kind == 1) = false := by rw [hkind]; rfl
              have hk2 : (o.kind == 2) = false := by rw [hkind]; rfl
              have hk3 : (o.kind == 3) = false := by rw [hkind]; rfl
              have hk4 : (o.kind == 4) = true := by rw [hkind]; rfl
              clear hkind
              have Hpc := Lib.hid (pc_space Hic.out o.space)
              go_upto_region 21 with (fail)
              go_region_held3 (fun w' => w'.cell? ⟨w.heap.size + 1, 0, none⟩ = some (.pointer (some ⟨w.heap.size, 0, none⟩)) ∧ w'.cell? ⟨w.heap.size + 1 + 1 + 1, 0, none⟩ = some (.pointer (some ⟨w.heap.size + 1 + 1, 0, none⟩)) ∧ w'.cell? ⟨wr.heap.size, 2, none⟩ = some (.int .i64 o.now) ∧ w'.cell? ⟨wr.heap.size, 8, none⟩ = some (.bool o.v) ∧ w'.cell? ⟨wr.heap.size, 9, none⟩ = some (.int .i64 o.latest) ∧ w'.cell? ⟨wr.heap.size, 10, none⟩ = some (.int .i64 o.delay) ∧ w'.cell? ⟨wr.heap.size, 11, none⟩ = some (.int .i64 o.limit))
                (first | exact Hk.out _ (Below.refl _ _).drew | exact Hk.out _ (below_on_drew (Below.refl _ _) (Nat.le_refl _) hb) | exact Hko.out _ _ (below_on_drew (Below.refl _ _) (Nat.le_refl _) hb) hO)
                (first | (go_at_call 25; refine (Ht.out _).mono ?_; rintro e w1 ⟨rfl, hb⟩) | (go_at_call 30; refine (batchEnd_any w.heap.size (w.heap.size + 1 + 1) s.c s.r (tm o.now) o.limit o.space _ (e3.c.later (below_on_drew (Below.refl _ _) (Nat.le_refl _) hb)) (e3.r.later (below_on_drew (Below.refl _ _) (Nat.le_refl _) hb)) (by rw [Hic.out.size]; omega) (by rw [Hic.out.size]; omega) (by have := Hic.out.w0; rw [Hic.out.size]; omega) (by have := Hic.out.wp; have := Hic.out.p0; omega) Hic.out.t0 Hic.out.t1 Hic.out.p0 (by have := Hic.out.wp; have := Hic.out.w0; omega) hsp0 hsp1 Hpc.out.1 Hpc.out.2.1 Hpc.out.2.2.1 Hpc.out.2.2.2 Hir.out.s0 Hir.out.s1 Hir.out.d0 Hir.out.d1 Hg.out.lim0 Hg.out.lim1).mono ?_; rintro e w2 ⟨rfl, hC, hR2, hO⟩))
              go_wp2_with fail
              go_meet
              exact Hf.out _ _ ⟨endB o.space (endA s.c (tm o.now)) s.r o.limit, endR o.space (endA s.c (tm o.now)) s.r o.limit⟩ (below_on_drew (Below.refl _ _) (Nat.le_refl _) hb) hO hC hR2 (by simp [stepM, Hkd.out])
            · have Hkd := Lib.hid hkind
              have hk0 : (o.kind == 0) = false := by rw [hkind]; rfl
              have hk1 : (o.kind == 1) = false := by rw [hkind]; rfl
              have hk2 : (o.kind == 2) = false := by rw [hkind]; rfl
              have hk3 : (o.kind == 3) = false := by rw [hkind]; rfl
              have hk4 : (o.kind == 4) = false := by rw [hkind]; rfl
              have hk5 : (o.kind == 5) = true := by rw [hkind]; rfl
              clear hkind
              have y1 : wc.cell? ⟨w.heap.size + 1, 0, none⟩ = some (.pointer (some ⟨w.heap.size, 0, none⟩)) := e3.p5.cell 0
              have y2 : wc.cell? ⟨wr.heap.size, 8, none⟩ = some (.bool o.v) := hbo3.cell 8
              go_wp2_with (go_at_call 31; refine (setUnder_any w.heap.size w.heap.size s.c o.v _ e3.c).mono ?_; rintro e w2 ⟨rfl, hC, hO1⟩)
              go_meet
              exact Hf.out _ _ ⟨{ s.c with under := o.v }, s.r⟩ (Below.refl _ _) hO1.widen hC (hO1.blk e3.r (by omega) (by omega)) (by simp [stepM, Hkd.out])
            · have Hkd := Lib.hid hkind
              have hk0 : (o.kind == 0) = false := by rw [hkind]; rfl
              have hk1 : (o.kind == 1) = false := by rw [hkind]; rfl
              have hk2 : (o.kind == 2) = false := by rw [hkind]; rfl
              have hk3 : (o.kind == 3) = false := by rw [hkind]; rfl
              have hk4 : (o.kind == 4) = false := by rw [hkind]; rfl
              have hk5 : (o.kind == 5) = false := by rw [hkind]; rfl
              have hk6 : (o.kind == 6) = true := by rw [hkind]; rfl
              clear hkind
              go_upto_region 25 with (fail)
              go_region_held3 (fun w' => w'.cell? ⟨w.heap.size + 1, 0, none⟩ = some (.pointer (some ⟨w.heap.size, 0, none⟩)) ∧ w'.cell? ⟨w.heap.size + 1 + 1 + 1, 0, none⟩ = some (.pointer (some ⟨w.heap.size + 1 + 1, 0, none⟩)) ∧ w'.cell? ⟨wr.heap.size, 2, none⟩ = some (.int .i64 o.now) ∧ w'.cell? ⟨wr.heap.size, 8, none⟩ = some (.bool o.v) ∧ w'.cell? ⟨wr.heap.size, 9, none⟩ = some (.int .i64 o.latest) ∧ w'.cell? ⟨wr.heap.size, 10, none⟩ = some (.int .i64 o.delay) ∧ w'.cell? ⟨wr.heap.size, 11, none⟩ = some (.int .i64 o.limit))
                (first | exact Hk.out _ (Below.refl _ _).drew | exact Hk.out _ (below_on_drew (Below.refl _ _) (Nat.le_refl _) hb) | exact Hko.out _ _ (below_on_drew (Below.refl _ _) (Nat.le_refl _) hb) hO)
                (first | (go_at_call 25; refine (Ht.out _).mono ?_; rintro e w1 ⟨rfl, hb⟩) | (go_at_call 32; refine (sample_any (w.heap.size + 1 + 1) s.r (tm o.now) o _ (e3.r.later (below_on_drew (Below.refl _ _) (Nat.le_refl _) hb)) Hir.out Hg.out).mono ?_; rintro e w2 ⟨rfl, hR2, hO1⟩; have hO : Only w.heap.size (w.heap.size + 1 + 1) w1 w2 := hO1.widen2))
              go_wp2_with fail
              go_meet
              exact Hf.out _ _ ⟨s.c, sampleR s.r (tm o.now) o.v o.latest o.delay o.limit⟩ (below_on_drew (Below.refl _ _) (Nat.le_refl _) hb) hO (hO1.blk (e3.c.later (below_on_drew (Below.refl _ _) (Nat.le_refl _) hb)) (by omega) (by omega)) hR2 (by simp [stepM, Hkd.out])
          · have Hnk := Lib.hid (show ¬ o.kind = 0 ∧ ¬ o.kind = 1 ∧ ¬ o.kind = 2 ∧ ¬ o.kind = 3 ∧ ¬ o.kind = 4 ∧ ¬ o.kind = 5 ∧ ¬ o.kind = 6 by omega)
            have hk0 : (o.kind == 0) = false := by have := Hnk.out; simp; omega
            have hk1 : (o.kind == 1) = false := by have := Hnk.out; simp; omega
            have hk2 : (o.kind == 2) = false := by have := Hnk.out; simp; omega
            have hk3 : (o.kind == 3) = false := by have := Hnk.out; simp; omega
            have hk4 : (o.kind == 4) = false := by have := Hnk.out; simp; omega
            have hk5 : (o.kind == 5) = false := by have := Hnk.out; simp; omega
            have hk6 : (o.kind == 6) = false := by have := Hnk.out; simp; omega
            clear hkind
            go_wp2_with fail
            go_meet
            exact Hf.out _ _ s (Below.refl _ _) (Only.refl _ _ _) e3.c e3.r (by simp [stepM, Hnk.out])
        case rest =>
          obtain ⟨e4, hown4, hb5⟩ := hcut
          have hinv := Hinv.out (k + 1) (by omega)
          have hrows := rows_succ size ops (k + 1)
          obtain ⟨s, hs⟩ : ∃ s, stAt size ops (k + 1) = s := ⟨_, rfl⟩
          rw [hs] at e4 hinv hrows
          have Hs2 := Lib.hid hs
          have Hr2 := Lib.hid hrows
          clear hs e3 hown3 hbo3 hb4 hgp3 hsp hrows
          obtain ⟨hic, _⟩ := hinv
          have hz : 0 ≤ s.c.size ∧ s.c.size ≤ 65535 := by rw [hic.size]; omega
          have hfl0 : -4611686018427387904 ≤ s.c.flight := by have := hic.fl0; omega
          have hfl1 : s.c.flight ≤ 4611686018427387904 := by have := hic.fl1; omega
          clear hic
          go_wp2_with fail
          refine (look_any (w.heap.size + 1) (w.heap.size + 1 + 1 + 1) w.heap.size (w.heap.size + 1 + 1) s.c s.r _ e4.c e4.r e4.p5 e4.p6 hz.1 hz.2 hfl0 hfl1).mono ?_
          unfold outCells
          rintro e w5 ⟨rfl, hb6⟩
          have e5 := e4.later hb6
          have hown5 := own_keep hown4 hb6
          have hb7 := below_on hb5 hb5.size hb6
          have hbs7 := hb7.size
          clear e4 hown4 hb5 hb6 hz hfl0 hfl1
          go_wp2_with (at_builtin; refine wpList_append_lies _ (by rfl) (.tmp 112) (.tmp 115) 45 (by rfl) w.heap.size 47 i0 _ 11 80 Try.underlying45 hi hz0 hz1 hz2 (by rfl) (by omega) _ (k + 1) (rows size ops (k + 1)) (by rfl) (hown5.alloc _) ⟨w5.heap.size, 0, none⟩ 1 1 (rowCells s) (by rfl) (by rfl) ?c1 (oneCell_row _) (by omega) (by unfold maxLen; omega) (by omega) ?c2 (w5.heap.size + 1) ?c3 ?_)
          case c1 => exact World.news_of_block (heap_alloc_new w5 (.cells (outCells s.c s.r) 47))
          case c2 => simp; omega
          case c3 => simp
          intro g1 cap1 w6 hown6 hgrow hat _
          rw [← Hr2.out] at hown6
          have e6 : Env w6 w.heap.size (w.heap.size + 1) (w.heap.size + 1 + 1) (w.heap.size + 1 + 1 + 1) s := by
            have e := e5.alloc (.cells (outCells s.c s.r) 47)
            have hn : ∀ b t cs, Blk w5 b t cs → t ≠ 47 → some b ≠ (Value.slice (some ⟨g0, 0, none⟩) (k + 1) cap0).ownBlock := by
              intro b t cs hB hne heq
              have hg0 : b = g0 := by simpa [Value.ownBlock] using heq
              subst hg0
              rcases hown5.2 with ⟨h1, _⟩ | ⟨g', cap', cur, hv, _, hh, _⟩
              · cases h1
              · injection hv with hv1; injection hv1 with hv1; injection hv1 with hv1
                subst hv1
                exact Blk.apart hB (show Blk w5 b 47 cur from hh) hne rfl
            exact ⟨e.c.grown hgrow (hn _ _ _ e5.c (by decide)), e.r.grown hgrow (hn _ _ _ e5.r (by decide)), e.p5.grown hgrow (hn _ _ _ e5.p5 (by decide)), e.p6.grown hgrow (hn _ _ _ e5.p6 (by decide))⟩
          have hb8 : Below w.heap.size w w6 := (hb7.alloc hbs7 _).grown hgrow (by simp; omega) (own_ge hown5)
          have Hown := Lib.hid hown6
          clear hown5 hown6 hgrow hb7 e5 hat
          go_wp2_with fail
          go_roundg (gk - 1)
          case measure => have := Hn.out; omega
          case rel => exact ⟨k + 1, by omega, by have := Hn.out; omega, by go_num, ⟨_, _, rfl⟩, Hown.out, by rw [Hs2.out]; exact e6, hb8⟩
    · obtain rfl : k = ops.length := by omega
      go_wp2_with fail
      go_ret
      exact ⟨g0, cap0, rfl, hown, hb1⟩
end Go.Proofs.Ytpaociigfbibbaa

