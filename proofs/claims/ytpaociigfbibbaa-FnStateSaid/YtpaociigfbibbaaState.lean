/-
  FnState: its walk.
-/
import Derived.Test.YtpaociigfbibbaaSimLaw
import Derived.Test.YtpaociigfbibbaaFirst
import Derived.StillTailTactics
import Derived.Deep.RegionWith
namespace Go.Proofs.Ytpaociigfbibbaa
open Go.RowKit

set_option maxRecDepth 100000 in
set_option maxHeartbeats 8000000 in
theorem state_walk (size : Int) (A : Option Addr) (cap : Nat) (ops : List Call) (w : World) (hops : OpsAt w w.heap.size A ops) :
    Calls Try.prog 9 #[.int .i64 size, .slice A ops.length cap] w fun e w' => e = .returned (.bool true) ∧ Below w.heap.size w w' := by
  by_cases hlen : 2147483647 < ops.length
  · have dl : decide ((2147483647 : Int) < (ops.length : Int)) = true := by simp; omega
    go_enter Try.func9, Try.ntmps9
    go_wp2_with fail
    go_ret
    exact ⟨rfl, Below.refl _ _⟩
  have dl : decide ((2147483647 : Int) < (ops.length : Int)) = false := by simp; omega
  have Htold := Lib.hid (told_any size A cap ops w hops (by omega))
  have Hops := Lib.hid hops
  have Hlen := Lib.hid hlen
  clear hops hlen
  go_enter Try.func9, Try.ntmps9
  go_wp2_with (go_at_call 12; refine Htold.out.mono ?_; rintro e w1 ⟨⟨v, rfl⟩ | ⟨A', c', rfl, hle, h0, h1, hall, hown⟩, hb⟩)
  · go_wp2_with fail
    go_ret
    exact ⟨rfl, hb⟩
  have hbs := hb.size
  have hopsv : OpsAt w1 w1.heap.size A' ops := OpsAt.of_own hown
  have hrun := run_any size A cap ops w1 ((Hops.out.keep hb).more hbs) hle h0 h1 (fun o ho => (hall o ho).good)
  have hinv := inv_at size h0 h1 ops hle (fun o ho => (hall o ho).good)
  have Hrun := Lib.hid hrun
  have Hinv := Lib.hid hinv
  have Hall := Lib.hid hall
  clear hrun hinv hall hown
  go_wp2_with (go_at_call 11; refine Hrun.out.mono ?_; rintro e w2 ⟨g, cap2, rfl, hown2, hb2⟩)
  have hb3 := below_on hb hbs hb2
  have hbs3 := hb3.size
  have hgl : g < w2.heap.size := by
    obtain ⟨g', cap', hv', _, hlt'⟩ := hown2.form (by omega)
    injection hv' with e1
    injection e1 with e1
    injection e1 with e1
    omega
  have hopsw : OpsAt w2 w2.heap.size A' ops := (hopsv.keep hb2).more hb2.size
  have hsrc : ∀ w3, Below w2.heap.size w2 w3 → ∀ k, k < ops.length + 1 → ∀ j v, (rowCells (stAt size ops k))[j]? = some v → w3.cell? ⟨g, k * 11 + j, none⟩ = some v :=
    fun w3 hb4 k hk j v hv => (hb4.cell (p := ⟨g, _, none⟩) hgl).trans (out_at hown2 rfl (k := k) (j := j) (by omega) hv)
  have Hsrc := Lib.hid hsrc
  have Hopsw := Lib.hid hopsw
  clear hsrc hown2 hb2 hb hopsv hopsw Hrun Htold Hops
  obtain ⟨s0, hs0⟩ : ∃ s, spFirst size = s := ⟨_, rfl⟩
  have hF : ∀ W, Calls Try.prog 13 #[.int .i64 size] W fun e w' => e = .returned (.agg #[.int .i64 s0.window, .int .i64 s0.flight, .int .i64 s0.thresh, .int .i64 s0.pend, .bool s0.can, .bool s0.one, .bool s0.inr, .bool s0.lim, .int .i64 s0.least, .int .i64 s0.smooth, .int .i64 s0.dev, .int .i64 s0.start, .int .i64 s0.last, .bool s0.loss, .int .i64 s0.size]) ∧ Below W.heap.size W w' := fun W => by
    subst hs0
    exact spFirst_any size W h0 h1
  have HF := Lib.hid hF
  have Hs0 := Lib.hid hs0
  clear hF hs0
  go_wp2_with (go_at_call 13; refine (HF.out _).mono ?_; rintro e w3 ⟨rfl, hb4⟩)
  have hb5 : Below w2.heap.size w2 (w3.alloc (.cells #[.int .i64 s0.window, .int .i64 s0.flight, .int .i64 s0.thresh, .int .i64 s0.pend, .bool s0.can, .bool s0.one, .bool s0.inr, .bool s0.lim, .int .i64 s0.least, .int .i64 s0.smooth, .int .i64 s0.dev, .int .i64 s0.start, .int .i64 s0.last, .bool s0.loss, .int .i64 s0.size] 39)) := hb4.alloc hb4.size _
  have hb4s := hb4.size
  clear hb4
  go_loopg [29] (ops.length + 1) (fun m i wr => ∃ k : Nat, k ≤ ops.length + 1 ∧ m = ops.length + 1 - k ∧ i = .int .i64 k ∧ Blk wr w3.heap.size 39 (spCells (spAt size ops (min k ops.length))) ∧ Below w2.heap.size w2 wr)
  case atStart => exact ⟨0, by omega, by omega, rfl, by rw [Nat.zero_min, spAt_zero, Hs0.out]; exact Blk.new _ _ _, hb5⟩
  case round =>
    clear hb5
    obtain ⟨k, hk, hn, rfl, hB, hb⟩ := hrel
    have hbs' := hb.size
    have lg : g < wr.heap.size := by omega
    have lB := hB.lt
    have Hn := Lib.hid hn
    clear hn
    by_cases hlt : k < ops.length + 1
    · have hmin : min k ops.length = k := by omega
      rw [hmin] at hB
      clear hmin
      obtain ⟨s, hs⟩ : ∃ s, spAt size ops k = s := ⟨_, rfl⟩
      obtain ⟨hnm, hok⟩ := sp_all size h0 h1 ops hle Hall.out k (by omega)
      rw [hs] at hB hnm hok
      obtain ⟨yv0, ye0⟩ : ∃ v, (stAt size ops k).c.window = v := ⟨_, rfl⟩
      have y0 : wr.cell? ⟨g, k * 11, none⟩ = some (.int .i64 yv0) := Hsrc.out wr hb k (by omega) 0 _ (by rw [← ye0]; rfl)
      obtain ⟨yv1, ye1⟩ : ∃ v, (stAt size ops k).c.flight = v := ⟨_, rfl⟩
      have y1 : wr.cell? ⟨g, k * 11 + 1, none⟩ = some (.int .i64 yv1) := Hsrc.out wr hb k (by omega) 1 _ (by rw [← ye1]; rfl)
      obtain ⟨yv2, ye2⟩ : ∃ v, (stAt size ops k).c.thresh = v := ⟨_, rfl⟩
      have y2 : wr.cell? ⟨g, k * 11 + 2, none⟩ = some (.int .i64 yv2) := Hsrc.out wr hb k (by omega) 2 _ (by rw [← ye2]; rfl)
      obtain ⟨yv3, ye3⟩ : ∃ v, (stAt size ops k).c.pend = v := ⟨_, rfl⟩
      have y3 : wr.cell? ⟨g, k * 11 + 3, none⟩ = some (.int .i64 yv3) := Hsrc.out wr hb k (by omega) 3 _ (by rw [← ye3]; rfl)
      obtain ⟨yv4, ye4⟩ : ∃ v, ((stAt size ops k).c.one || decide ((stAt size ops k).c.flight + (stAt size ops k).c.size ≤ (stAt size ops k).c.window)) = v := ⟨_, rfl⟩
      have y4 : wr.cell? ⟨g, k * 11 + 4, none⟩ = some (.bool yv4) := Hsrc.out wr hb k (by omega) 4 _ (by rw [← ye4]; rfl)
      obtain ⟨yv5, ye5⟩ : ∃ v, (stAt size ops k).c.one = v := ⟨_, rfl⟩
      have y5 : wr.cell? ⟨g, k * 11 + 5, none⟩ = some (.bool yv5) := Hsrc.out wr hb k (by omega) 5 _ (by rw [← ye5]; rfl)
      obtain ⟨yv6, ye6⟩ : ∃ v, (stAt size ops k).c.inr = v := ⟨_, rfl⟩
      have y6 : wr.cell? ⟨g, k * 11 + 6, none⟩ = some (.bool yv6) := Hsrc.out wr hb k (by omega) 6 _ (by rw [← ye6]; rfl)
      obtain ⟨yv7, ye7⟩ : ∃ v, stateBytes (stAt size ops k).c = v := ⟨_, rfl⟩
      have y7 : wr.cell? ⟨g, k * 11 + 7, none⟩ = some (.string yv7) := Hsrc.out wr hb k (by omega) 7 _ (by rw [← ye7]; rfl)
      obtain ⟨yv8, ye8⟩ : ∃ v, (stAt size ops k).r.least = v := ⟨_, rfl⟩
      have y8 : wr.cell? ⟨g, k * 11 + 8, none⟩ = some (.int .i64 yv8) := Hsrc.out wr hb k (by omega) 8 _ (by rw [← ye8]; rfl)
      obtain ⟨yv9, ye9⟩ : ∃ v, (stAt size ops k).r.smooth = v := ⟨_, rfl⟩
      have y9 : wr.cell? ⟨g, k * 11 + 9, none⟩ = some (.int .i64 yv9) := Hsrc.out wr hb k (by omega) 9 _ (by rw [← ye9]; rfl)
      obtain ⟨yv10, ye10⟩ : ∃ v, (stAt size ops k).r.dev = v := ⟨_, rfl⟩
      have y10 : wr.cell? ⟨g, k * 11 + 10, none⟩ = some (.int .i64 yv10) := Hsrc.out wr hb k (by omega) 10 _ (by rw [← ye10]; rfl)
      rw [ye7] at hnm
      have hN : ∀ W, Calls Try.prog 14 #[.agg #[.int .i64 s.window, .int .i64 s.flight, .int .i64 s.thresh, .int .i64 s.pend, .bool s.can, .bool s.one, .bool s.inr, .bool s.lim, .int .i64 s.least, .int .i64 s.smooth, .int .i64 s.dev, .int .i64 s.start, .int .i64 s.last, .bool s.loss, .int .i64 s.size]] W fun e w' => e = .returned (.string yv7) ∧ Below W.heap.size W w' := fun W => by
        have := name_any s W
        rwa [hnm] at this
      have HN := Lib.hid hN
      have Hok := Lib.hid hok
      have Hs := Lib.hid hs
      clear hN hok hs hnm ye0 ye1 ye2 ye3 ye4 ye5 ye6 ye7 ye8 ye9 ye10
      have ik : (k : Int) < (ops.length : Int) + 1 := by omega
      have ik0 : (0 : Int) ≤ (k : Int) := by omega
      by_cases hlo : k < ops.length
      · have ik3 : (k : Int) < (ops.length : Int) := by omega
        have dk : decide ((k : Int) < (ops.length : Int)) = true := by simpa using hlo
        go_wp2_with fail
        refine wp_forget (fun w' => Blk w' w3.heap.size 39 (spCells s) ∧ Blk w' wr.heap.size 28 #[.int .i64 yv0, .int .i64 yv1, .int .i64 yv2, .int .i64 yv3, .bool yv4, .bool yv5, .bool yv6, .string yv7, .int .i64 yv8, .int .i64 yv9, .int .i64 yv10] ∧ Below w2.heap.size w2 w') ⟨hB.alloc _, Blk.new _ _ _, hb.alloc hbs' _⟩ ?_
        rintro W ⟨e1, e2, e3⟩
        clear hB hb hbs' y0 y1 y2 y3 y4 y5 y6 y7 y8 y9 y10
        have t0 := Later.cell (show W.cell? ⟨w3.heap.size, 0, none⟩ = some (.int .i64 s.window) from e1.cell 0)
        have t1 := Later.cell (show W.cell? ⟨w3.heap.size, 1, none⟩ = some (.int .i64 s.flight) from e1.cell 1)
        have t2 := Later.cell (show W.cell? ⟨w3.heap.size, 2, none⟩ = some (.int .i64 s.thresh) from e1.cell 2)
        have t3 := Later.cell (show W.cell? ⟨w3.heap.size, 3, none⟩ = some (.int .i64 s.pend) from e1.cell 3)
        have t4 := Later.cell (show W.cell? ⟨w3.heap.size, 4, none⟩ = some (.bool s.can) from e1.cell 4)
        have t5 := Later.cell (show W.cell? ⟨w3.heap.size, 5, none⟩ = some (.bool s.one) from e1.cell 5)
        have t6 := Later.cell (show W.cell? ⟨w3.heap.size, 6, none⟩ = some (.bool s.inr) from e1.cell 6)
        have t7 := Later.cell (show W.cell? ⟨w3.heap.size, 7, none⟩ = some (.bool s.lim) from e1.cell 7)
        have t8 := Later.cell (show W.cell? ⟨w3.heap.size, 8, none⟩ = some (.int .i64 s.least) from e1.cell 8)
        have t9 := Later.cell (show W.cell? ⟨w3.heap.size, 9, none⟩ = some (.int .i64 s.smooth) from e1.cell 9)
        have t10 := Later.cell (show W.cell? ⟨w3.heap.size, 10, none⟩ = some (.int .i64 s.dev) from e1.cell 10)
        have t11 := Later.cell (show W.cell? ⟨w3.heap.size, 11, none⟩ = some (.int .i64 s.start) from e1.cell 11)
        have t12 := Later.cell (show W.cell? ⟨w3.heap.size, 12, none⟩ = some (.int .i64 s.last) from e1.cell 12)
        have t13 := Later.cell (show W.cell? ⟨w3.heap.size, 13, none⟩ = some (.bool s.loss) from e1.cell 13)
        have t14 := Later.cell (show W.cell? ⟨w3.heap.size, 14, none⟩ = some (.int .i64 s.size) from e1.cell 14)
        have t15 := Later.cell (show W.cell? ⟨wr.heap.size, 7, none⟩ = some (.string yv7) from e2.cell 7)
        refine wp_region_later (by kernel_rfl) (by kernel_rfl) ?_
        repeat (go_big_quiet_step ((go_at_call 14; exact later_of (HN.out _))))
        refine wpQuiet_nil ?_
        intro _ hw'
        obtain ⟨sl, hw⟩ := hw'
        subst hw
        have d1 := e1.later sl.below
        have d3 := below_on e3 e3.size sl.below
        generalize sl.val = V at d1 d3 ⊢
        clear t0 t1 t2 t3 t4 t5 t6 t7 t8 t9 t10 t11 t12 t13 t14 t15 e1 e2 e3
        have Vs := d3.size
        obtain ⟨b, off, rfl, hbB, hc⟩ := Hopsw.out (by omega)
        obtain ⟨o, ho⟩ : ∃ o, ops[k] = o := ⟨_, rfl⟩
        have hto := Hall.out _ (List.getElem_mem hlo)
        have hsim := sp_step size h0 h1 ops hle Hall.out k hlo
        rw [ho, Hs.out] at hsim
        rw [ho] at hto
        have x0 : V.cell? ⟨b, off + k * 12, none⟩ = some (.int .i64 o.kind) := (d3.cell (p := ⟨b, _, none⟩) hbB).trans (hc k hlo 0 _ (by rw [ho]; rfl))
        have x1 : V.cell? ⟨b, off + k * 12 + 1, none⟩ = some (.int .i64 o.space) := (d3.cell (p := ⟨b, _, none⟩) hbB).trans (hc k hlo 1 _ (by rw [ho]; rfl))
        have x2 : V.cell? ⟨b, off + k * 12 + 2, none⟩ = some (.int .i64 o.now) := (d3.cell (p := ⟨b, _, none⟩) hbB).trans (hc k hlo 2 _ (by rw [ho]; rfl))
        have x3 : V.cell? ⟨b, off + k * 12 + 3, none⟩ = some (.int .i64 o.time) := (d3.cell (p := ⟨b, _, none⟩) hbB).trans (hc k hlo 3 _ (by rw [ho]; rfl))
        have x4 : V.cell? ⟨b, off + k * 12 + 4, none⟩ = some (.int .i64 o.num) := (d3.cell (p := ⟨b, _, none⟩) hbB).trans (hc k hlo 4 _ (by rw [ho]; rfl))
        have x5 : V.cell? ⟨b, off + k * 12 + 5, none⟩ = some (.int .i64 o.size) := (d3.cell (p := ⟨b, _, none⟩) hbB).trans (hc k hlo 5 _ (by rw [ho]; rfl))
        have x6 : V.cell? ⟨b, off + k * 12 + 6, none⟩ = some (.bool o.el) := (d3.cell (p := ⟨b, _, none⟩) hbB).trans (hc k hlo 6 _ (by rw [ho]; rfl))
        have x7 : V.cell? ⟨b, off + k * 12 + 7, none⟩ = some (.bool o.inf) := (d3.cell (p := ⟨b, _, none⟩) hbB).trans (hc k hlo 7 _ (by rw [ho]; rfl))
        have x8 : V.cell? ⟨b, off + k * 12 + 8, none⟩ = some (.bool o.v) := (d3.cell (p := ⟨b, _, none⟩) hbB).trans (hc k hlo 8 _ (by rw [ho]; rfl))
        have x9 : V.cell? ⟨b, off + k * 12 + 9, none⟩ = some (.int .i64 o.latest) := (d3.cell (p := ⟨b, _, none⟩) hbB).trans (hc k hlo 9 _ (by rw [ho]; rfl))
        have x10 : V.cell? ⟨b, off + k * 12 + 10, none⟩ = some (.int .i64 o.delay) := (d3.cell (p := ⟨b, _, none⟩) hbB).trans (hc k hlo 10 _ (by rw [ho]; rfl))
        have x11 : V.cell? ⟨b, off + k * 12 + 11, none⟩ = some (.int .i64 o.limit) := (d3.cell (p := ⟨b, _, none⟩) hbB).trans (hc k hlo 11 _ (by rw [ho]; rfl))
        obtain ⟨s', hs'⟩ : ∃ s', spNext s o = s' := ⟨_, rfl⟩
        have hX : ∀ W, Calls Try.prog 15 #[.agg #[.int .i64 s.window, .int .i64 s.flight, .int .i64 s.thresh, .int .i64 s.pend, .bool s.can, .bool s.one, .bool s.inr, .bool s.lim, .int .i64 s.least, .int .i64 s.smooth, .int .i64 s.dev, .int .i64 s.start, .int .i64 s.last, .bool s.loss, .int .i64 s.size], .agg #[.int .i64 o.kind, .int .i64 o.space, .int .i64 o.now, .int .i64 o.time, .int .i64 o.num, .int .i64 o.size, .bool o.el, .bool o.inf, .bool o.v, .int .i64 o.latest, .int .i64 o.delay, .int .i64 o.limit]] W fun e w' => e = .returned (.agg #[.int .i64 s'.window, .int .i64 s'.flight, .int .i64 s'.thresh, .int .i64 s'.pend, .bool s'.can, .bool s'.one, .bool s'.inr, .bool s'.lim, .int .i64 s'.least, .int .i64 s'.smooth, .int .i64 s'.dev, .int .i64 s'.start, .int .i64 s'.last, .bool s'.loss, .int .i64 s'.size]) ∧ Below W.heap.size W w' := fun W => by
          subst hs'
          exact next_any s o W ⟨hto.k0, hto.k1, hto.size0, hto.size1, hto.lat0, hto.lat1, hto.del0, hto.del1, hto.lim0, hto.lim1, Hok.out, hsim.1, hsim.2.1, hsim.2.2⟩
        have hs2 : spAt size ops (min (k + 1) ops.length) = s' := by
          have e : min (k + 1) ops.length = k + 1 := by omega
          rw [e, spAt_succ size ops hlo, Hs.out, ho, hs']
        have HX := Lib.hid hX
        have Hs2 := Lib.hid hs2
        clear hX hs2 hs' hto hsim ho hc Hs Hok
        have u0 : V.cell? ⟨w3.heap.size, 0, none⟩ = some (.int .i64 s.window) := d1.cell 0
        have u1 : V.cell? ⟨w3.heap.size, 1, none⟩ = some (.int .i64 s.flight) := d1.cell 1
        have u2 : V.cell? ⟨w3.heap.size, 2, none⟩ = some (.int .i64 s.thresh) := d1.cell 2
        have u3 : V.cell? ⟨w3.heap.size, 3, none⟩ = some (.int .i64 s.pend) := d1.cell 3
        have u4 : V.cell? ⟨w3.heap.size, 4, none⟩ = some (.bool s.can) := d1.cell 4
        have u5 : V.cell? ⟨w3.heap.size, 5, none⟩ = some (.bool s.one) := d1.cell 5
        have u6 : V.cell? ⟨w3.heap.size, 6, none⟩ = some (.bool s.inr) := d1.cell 6
        have u7 : V.cell? ⟨w3.heap.size, 7, none⟩ = some (.bool s.lim) := d1.cell 7
        have u8 : V.cell? ⟨w3.heap.size, 8, none⟩ = some (.int .i64 s.least) := d1.cell 8
        have u9 : V.cell? ⟨w3.heap.size, 9, none⟩ = some (.int .i64 s.smooth) := d1.cell 9
        have u10 : V.cell? ⟨w3.heap.size, 10, none⟩ = some (.int .i64 s.dev) := d1.cell 10
        have u11 : V.cell? ⟨w3.heap.size, 11, none⟩ = some (.int .i64 s.start) := d1.cell 11
        have u12 : V.cell? ⟨w3.heap.size, 12, none⟩ = some (.int .i64 s.last) := d1.cell 12
        have u13 : V.cell? ⟨w3.heap.size, 13, none⟩ = some (.bool s.loss) := d1.cell 13
        have u14 : V.cell? ⟨w3.heap.size, 14, none⟩ = some (.int .i64 s.size) := d1.cell 14
        have ix : (0 : Int) ≤ k := by omega
        go_wp2_with fail
        go_still_tail 5, (by kernel_rfl)
        change wpList _ _ _ _ _ V.drew
        have f1 := d1.drew
        have f3 := d3.drew
        clear d1 d3 u0 u1 u2 u3 u4 u5 u6 u7 u8 u9 u10 u11 u12 u13 u14 x0 x1 x2 x3 x4 x5 x6 x7 x8 x9 x10 x11
        generalize V.drew = U at f1 f3 ⊢
        have lU := f1.lt
        go_wp2_with (go_at_call 15; refine (HX.out _).mono ?_; rintro e w5 ⟨rfl, hb6⟩; have g1 := f1.later hb6; have g3 := below_on f3 f3.size hb6; have u0 : w5.cell? ⟨w3.heap.size, 0, none⟩ = some (.int .i64 s.window) := g1.cell 0; have z0 := g1.frozen 0; have u1 : w5.cell? ⟨w3.heap.size, 1, none⟩ = some (.int .i64 s.flight) := g1.cell 1; have z1 := g1.frozen 1; have u2 : w5.cell? ⟨w3.heap.size, 2, none⟩ = some (.int .i64 s.thresh) := g1.cell 2; have z2 := g1.frozen 2; have u3 : w5.cell? ⟨w3.heap.size, 3, none⟩ = some (.int .i64 s.pend) := g1.cell 3; have z3 := g1.frozen 3; have u4 : w5.cell? ⟨w3.heap.size, 4, none⟩ = some (.bool s.can) := g1.cell 4; have z4 := g1.frozen 4; have u5 : w5.cell? ⟨w3.heap.size, 5, none⟩ = some (.bool s.one) := g1.cell 5; have z5 := g1.frozen 5; have u6 : w5.cell? ⟨w3.heap.size, 6, none⟩ = some (.bool s.inr) := g1.cell 6; have z6 := g1.frozen 6; have u7 : w5.cell? ⟨w3.heap.size, 7, none⟩ = some (.bool s.lim) := g1.cell 7; have z7 := g1.frozen 7; have u8 : w5.cell? ⟨w3.heap.size, 8, none⟩ = some (.int .i64 s.least) := g1.cell 8; have z8 := g1.frozen 8; have u9 : w5.cell? ⟨w3.heap.size, 9, none⟩ = some (.int .i64 s.smooth) := g1.cell 9; have z9 := g1.frozen 9; have u10 : w5.cell? ⟨w3.heap.size, 10, none⟩ = some (.int .i64 s.dev) := g1.cell 10; have z10 := g1.frozen 10; have u11 : w5.cell? ⟨w3.heap.size, 11, none⟩ = some (.int .i64 s.start) := g1.cell 11; have z11 := g1.frozen 11; have u12 : w5.cell? ⟨w3.heap.size, 12, none⟩ = some (.int .i64 s.last) := g1.cell 12; have z12 := g1.frozen 12; have u13 : w5.cell? ⟨w3.heap.size, 13, none⟩ = some (.bool s.loss) := g1.cell 13; have z13 := g1.frozen 13; have u14 : w5.cell? ⟨w3.heap.size, 14, none⟩ = some (.int .i64 s.size) := g1.cell 14; have z14 := g1.frozen 14)
        go_roundg (gk - 1)
        case measure => have := Hn.out; omega
        case rel =>
          refine ⟨k + 1, by omega, by have := Hn.out; omega, by go_num, ?_, ?_⟩
          · rw [Hs2.out]
            exact blk_eq ((((((((((((((((g1.put 0 _).put 1 _).put 2 _).put 3 _).put 4 _).put 5 _).put 6 _).put 7 _).put 8 _).put 9 _).put 10 _).put 11 _).put 12 _).put 13 _).put 14 _)) (by simp [spCells])
          · repeat (with_reducible (first | exact g3 | refine Below.setCell ?_ (by exact hb4s) _))
      · have dk : decide ((k : Int) < (ops.length : Int)) = false := by simp; omega
        have hkl : k = ops.length := by omega
        have e9 : spAt size ops (min (k + 1) ops.length) = s := by
          have e : min (k + 1) ops.length = k := by omega
          rw [e, Hs.out]
        have Hs2 := Lib.hid e9
        have dkn : decide (k < ops.length) = false := by simpa using hlo
        clear e9 hkl
        go_wp2_with fail
        refine wp_forget (fun w' => Blk w' w3.heap.size 39 (spCells s) ∧ Blk w' wr.heap.size 28 #[.int .i64 yv0, .int .i64 yv1, .int .i64 yv2, .int .i64 yv3, .bool yv4, .bool yv5, .bool yv6, .string yv7, .int .i64 yv8, .int .i64 yv9, .int .i64 yv10] ∧ Below w2.heap.size w2 w') ⟨hB.alloc _, Blk.new _ _ _, hb.alloc hbs' _⟩ ?_
        rintro W ⟨e1, e2, e3⟩
        clear hB hb hbs' y0 y1 y2 y3 y4 y5 y6 y7 y8 y9 y10
        have t0 := Later.cell (show W.cell? ⟨w3.heap.size, 0, none⟩ = some (.int .i64 s.window) from e1.cell 0)
        have t1 := Later.cell (show W.cell? ⟨w3.heap.size, 1, none⟩ = some (.int .i64 s.flight) from e1.cell 1)
        have t2 := Later.cell (show W.cell? ⟨w3.heap.size, 2, none⟩ = some (.int .i64 s.thresh) from e1.cell 2)
        have t3 := Later.cell (show W.cell? ⟨w3.heap.size, 3, none⟩ = some (.int .i64 s.pend) from e1.cell 3)
        have t4 := Later.cell (show W.cell? ⟨w3.heap.size, 4, none⟩ = some (.bool s.can) from e1.cell 4)
        have t5 := Later.cell (show W.cell? ⟨w3.heap.size, 5, none⟩ = some (.bool s.one) from e1.cell 5)
        have t6 := Later.cell (show W.cell? ⟨w3.heap.size, 6, none⟩ = some (.bool s.inr) from e1.cell 6)
        have t7 := Later.cell (show W.cell? ⟨w3.heap.size, 7, none⟩ = some (.bool s.lim) from e1.cell 7)
        have t8 := Later.cell (show W.cell? ⟨w3.heap.size, 8, none⟩ = some (.int .i64 s.least) from e1.cell 8)
        have t9 := Later.cell (show W.cell? ⟨w3.heap.size, 9, none⟩ = some (.int .i64 s.smooth) from e1.cell 9)
        have t10 := Later.cell (show W.cell? ⟨w3.heap.size, 10, none⟩ = some (.int .i64 s.dev) from e1.cell 10)
        have t11 := Later.cell (show W.cell? ⟨w3.heap.size, 11, none⟩ = some (.int .i64 s.start) from e1.cell 11)
        have t12 := Later.cell (show W.cell? ⟨w3.heap.size, 12, none⟩ = some (.int .i64 s.last) from e1.cell 12)
        have t13 := Later.cell (show W.cell? ⟨w3.heap.size, 13, none⟩ = some (.bool s.loss) from e1.cell 13)
        have t14 := Later.cell (show W.cell? ⟨w3.heap.size, 14, none⟩ = some (.int .i64 s.size) from e1.cell 14)
        have t15 := Later.cell (show W.cell? ⟨wr.heap.size, 7, none⟩ = some (.string yv7) from e2.cell 7)
        refine wp_region_later (by kernel_rfl) (by kernel_rfl) ?_
        repeat (go_big_quiet_step ((go_at_call 14; exact later_of (HN.out _))))
        refine wpQuiet_nil ?_
        intro _ hw'
        obtain ⟨sl, hw⟩ := hw'
        subst hw
        have d1 := e1.later sl.below
        have d3 := below_on e3 e3.size sl.below
        generalize sl.val = V at d1 d3 ⊢
        clear t0 t1 t2 t3 t4 t5 t6 t7 t8 t9 t10 t11 t12 t13 t14 t15 e1 e2 e3
        have Vs := d3.size
        go_wp2_with fail
        go_roundg (gk - 1)
        case measure => have := Hn.out; omega
        case rel => exact ⟨k + 1, by omega, by have := Hn.out; omega, by go_num, by rw [Hs2.out]; exact d1, d3⟩
    · have ik : ¬ (k : Int) < (ops.length : Int) + 1 := by omega
      go_wp2_with fail
      go_ret
      exact ⟨rfl, below_on hb3 hbs3 hb⟩

end Go.Proofs.Ytpaociigfbibbaa

