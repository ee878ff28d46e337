/-
  The reference: the contract of Next, at the end of a batch behind a loss, and where nothing pends.
-/
import Derived.Test.YtpaociigfbibbaaSpTail
namespace Go.Proofs.Ytpaociigfbibbaa
open Go.RowKit
attribute [local go_sem ↓] sp_min sp_max

set_option maxRecDepth 100000 in
set_option maxHeartbeats 16000000 in
theorem next_k4e (s : Sp) (o : Call) (w : World) (hk : o.kind = 4) (hN : NextOk s o) (hL : (s.loss && decide (s.start ≤ s.last)) = true) :
    Calls Try.prog 15 #[.agg #[.int .i64 s.window, .int .i64 s.flight, .int .i64 s.thresh, .int .i64 s.pend, .bool s.can, .bool s.one, .bool s.inr, .bool s.lim, .int .i64 s.least, .int .i64 s.smooth, .int .i64 s.dev, .int .i64 s.start, .int .i64 s.last, .bool s.loss, .int .i64 s.size], .agg #[.int .i64 o.kind, .int .i64 o.space, .int .i64 o.now, .int .i64 o.time, .int .i64 o.num, .int .i64 o.size, .bool o.el, .bool o.inf, .bool o.v, .int .i64 o.latest, .int .i64 o.delay, .int .i64 o.limit]] w fun e w' => e = .returned (.agg (spCells (spNext s o))) ∧ Below w.heap.size w w' := by
  obtain ⟨hk0, hk1, hz0, hz1, hl0, hl1, hd0, hd1, ht0, ht1, hs, hq0, hq1, hq2⟩ := hN
  obtain ⟨sz0, sz1, sf0, sf1, sw0, sw1, st0, st1, sp0, sp1, hs0, hs1, hv0, hv1, hmin1⟩ := hs
  have Hk := Lib.hid hk
  have HL := Lib.hid hL
  clear hL
  clear hk
  go_enter Try.func15, Try.ntmps15
  go_upto_region 1 with (fail)
  refine wp_forget (fun w' => Blk w' (w.heap.size) 39 (spCells s) ∧ Blk w' (w.heap.size + 1) 34 #[.int .i64 o.kind, .int .i64 o.space, .int .i64 o.now, .int .i64 o.time, .int .i64 o.num, .int .i64 o.size, .bool o.el, .bool o.inf, .bool o.v, .int .i64 o.latest, .int .i64 o.delay, .int .i64 o.limit] ∧ Blk w' (w.heap.size + 2) 39 #[.int .i64 0, .int .i64 0, .int .i64 0, .int .i64 0, .bool false, .bool false, .bool false, .bool false, .int .i64 0, .int .i64 0, .int .i64 0, .int .i64 0, .int .i64 0, .bool false, .int .i64 0] ∧ Below w.heap.size w w')
    ⟨((Blk.new w 39 _).alloc _).alloc _, by simpa using (Blk.new (w.alloc _) 34 _).alloc _, by simpa using Blk.new ((w.alloc _).alloc _) 39 _, (((Below.refl _ _).alloc (Nat.le_refl _) _).alloc (by simp) _).alloc (by simp; omega) _⟩ ?_
  rintro W ⟨b1, b2, b3, b4⟩
  have ne : w.heap.size + 2 ≠ w.heap.size := by omega
  go_upto_region 1 with (fail)
  have p0 : W.cell? ⟨w.heap.size + 1, 0, none⟩ = some (.int .i64 o.kind) := b2.cell 0
  go_upto_block 0 with (fail)
  clear p0
  go_cut [0, 1, 7] (fun _ _ _ w' => Blk w' (w.heap.size) 39 (spCells (spBody s o)) ∧ Blk w' (w.heap.size + 2) 39 #[.int .i64 0, .int .i64 0, .int .i64 0, .int .i64 0, .bool false, .bool false, .bool false, .bool false, .int .i64 0, .int .i64 0, .int .i64 0, .int .i64 0, .int .i64 0, .bool false, .int .i64 0] ∧ Below w.heap.size w w')
  case first =>
    clear hq0 hq1 hq2
    have hk := Hk.out
    have q0 : (o.kind == 0) = false := by simp; omega
    have q1 : (o.kind == 1) = false := by simp; omega
    have q2 : (o.kind == 2) = false := by simp; omega
    have q3 : (o.kind == 3) = false := by simp; omega
    have q4 : (o.kind == 4) = true := by simp [hk]
    clear hk
    have c0 : W.cell? ⟨w.heap.size, 0, none⟩ = some (.int .i64 s.window) := b1.cell 0
    have c2 : W.cell? ⟨w.heap.size, 2, none⟩ = some (.int .i64 s.thresh) := b1.cell 2
    have c3 : W.cell? ⟨w.heap.size, 3, none⟩ = some (.int .i64 s.pend) := b1.cell 3
    have c5 : W.cell? ⟨w.heap.size, 5, none⟩ = some (.bool s.one) := b1.cell 5
    have c6 : W.cell? ⟨w.heap.size, 6, none⟩ = some (.bool s.inr) := b1.cell 6
    have c11 : W.cell? ⟨w.heap.size, 11, none⟩ = some (.int .i64 s.start) := b1.cell 11
    have c12 : W.cell? ⟨w.heap.size, 12, none⟩ = some (.int .i64 s.last) := b1.cell 12
    have c14 : W.cell? ⟨w.heap.size, 14, none⟩ = some (.int .i64 s.size) := b1.cell 14
    have p2 : W.cell? ⟨w.heap.size + 1, 2, none⟩ = some (.int .i64 o.now) := b2.cell 2
    have f0 := b1.frozen 0
    have f2 := b1.frozen 2
    have f3 := b1.frozen 3
    have f5 := b1.frozen 5
    have f6 := b1.frozen 6
    have f11 := b1.frozen 11
    go_upto_block 1 with (fail)
    go_cut [0, 1, 7] (fun _ _ _ w' => Blk w' (w.heap.size) 39 (spCells (spEnd s o.now)) ∧ Blk w' (w.heap.size + 2) 39 #[.int .i64 0, .int .i64 0, .int .i64 0, .int .i64 0, .bool false, .bool false, .bool false, .bool false, .int .i64 0, .int .i64 0, .int .i64 0, .int .i64 0, .int .i64 0, .bool false, .int .i64 0] ∧ Below w.heap.size w w')
    case first =>
      have hls : s.loss = true := by have := HL.out; simp at this; exact this.1
      have hst : s.start ≤ s.last := by have := HL.out; simp at this; exact this.2
      have c13 : W.cell? ⟨w.heap.size, 13, none⟩ = some (.bool true) := hls ▸ b1.cell 13
      have dst : decide (s.start ≤ s.last) = true := by simpa using hst
      have hE : spEnd s o.now = { s with start := o.now, inr := true, one := true, thresh := s.window / 2, window := max (s.window / 2) (2 * s.size), pend := 0 } := by simp [spEnd, hls, hst]
      have HE := Lib.hid hE
      clear hE hls hst
      go_upto_region 25 with (fail)
      refine wp_forget (fun w' => Blk w' (w.heap.size) 39 (spCells ({ s with start := o.now, inr := true, one := true, thresh := s.window / 2 })) ∧ Blk w' (w.heap.size + 2) 39 #[.int .i64 0, .int .i64 0, .int .i64 0, .int .i64 0, .bool false, .bool false, .bool false, .bool false, .int .i64 0, .int .i64 0, .int .i64 0, .int .i64 0, .int .i64 0, .bool false, .int .i64 0] ∧ Below w.heap.size w w') ⟨blk_eq ((((b1.put 11 _).put 6 _).put 5 _).put 2 _) (by simp [spCells]), (((b3.far ne _).far ne _).far ne _).far ne _, ?_⟩ ?_
      · repeat (with_reducible (first | assumption | refine Below.drew ?_ | refine below_drewN ?_ _ | refine Below.setCell ?_ (by exact Nat.le_refl _) _))
      rintro W1 ⟨e1, e2, e3⟩
      clear b1 b2 b3 b4 c0 c2 c3 c5 c6 c11 c12 c13 c14 p2 f0 f2 f3 f5 f6 f11
      have c2 : W1.cell? ⟨w.heap.size, 2, none⟩ = some (.int .i64 (s.window / 2)) := e1.cell 2
      have c14 : W1.cell? ⟨w.heap.size, 14, none⟩ = some (.int .i64 s.size) := e1.cell 14
      have c0 : W1.cell? ⟨w.heap.size, 0, none⟩ = some (.int .i64 s.window) := e1.cell 0
      have c3 : W1.cell? ⟨w.heap.size, 3, none⟩ = some (.int .i64 s.pend) := e1.cell 3
      have f0 := e1.frozen 0
      have f3 := e1.frozen 3
      have He := Lib.hid (show spCells (spEnd s o.now) = ((spCells { s with start := o.now, inr := true, one := true, thresh := s.window / 2 }).setIfInBounds 0 (.int .i64 (max (s.window / 2) (2 * s.size)))).setIfInBounds 3 (.int .i64 0) by rw [HE.out]; simp [spCells])
      clear HE
      go_region_with (go_at_call 17; refine (least_any _ _ (by omega) (by omega)).mono ?_; rintro e w1 ⟨rfl, rfl⟩)
      all_goals
        go_wp2_with fail
        go_meet
        refine ⟨?_, ?_, ?_⟩
        · rw [He.out]
          repeat (with_reducible (first | assumption | refine Blk.drew ?_ | refine Blk.drewN ?_ _ | refine Blk.put ?_ _ _))
        · repeat (with_reducible (first | assumption | refine Blk.drew ?_ | refine Blk.drewN ?_ _ | refine Blk.far ?_ ne _))
        · repeat (with_reducible (first | assumption | refine Below.drew ?_ | refine below_drewN ?_ _ | refine Below.setCell ?_ (by exact Nat.le_refl _) _))
    case rest =>
      clear b1 b2 b3 b4 c0 c2 c3 c5 c6 c11 c12 c14 p2 f0 f2 f3 f5 f6 f11
      obtain ⟨b1, b3, b4⟩ := hcut
      obtain ⟨t, ht⟩ : ∃ t, spEnd s o.now = t := ⟨_, rfl⟩
      rw [ht] at b1
      have f13 := b1.frozen 13
      have c13 : wc.cell? ⟨w.heap.size, 13, none⟩ = some (.bool t.loss) := b1.cell 13
      have He := Lib.hid (show spCells (spBody s o) = (spCells t).setIfInBounds 13 (.bool false) by rw [← ht]; simp [spCells, spBody, Hk.out])
      clear ht
      go_wp2_with fail
      go_meet
      refine ⟨?_, ?_, ?_⟩
      · rw [He.out]
        repeat (with_reducible (first | assumption | refine Blk.drew ?_ | refine Blk.drewN ?_ _ | refine Blk.put ?_ _ _))
      · repeat (with_reducible (first | assumption | refine Blk.drew ?_ | refine Blk.drewN ?_ _ | refine Blk.far ?_ ne _))
      · repeat (with_reducible (first | assumption | refine Below.drew ?_ | refine below_drewN ?_ _ | refine Below.setCell ?_ (by exact Nat.le_refl _) _))
  case rest =>
    obtain ⟨d1, d3, d4⟩ := hcut
    go_step
    exact next_tail s o (spBody s o) w wc _ _ _ _ _ _ _ _ _ _ _ _ _ _ _ _ _ _ _ _ _ _ _ _ _ _ _ _ _ _ _ _ _ _ _ _ _ _ _ _ _ _ _ _ _ _ _ _ _ _ _ _ _ _ _ _ _ _ _ _ _ _ _ _ _ _ _ _ _ _ _ _ _ _ _ _ _ _ _ _ _ _ _ _ _ _ _ _ _ _ _ _ _ _ _ _ _ _ _ _ _ _ _ _ _ _ _ _ _ _ _ _ _ _ _ _ _ _ _ _ _ _ _ _ _ _ _ _ _ _ _ _ _ _ _ _ _ _ _ _ _ _ _ _ _ _ _ _ _ _ _ _ _ _ _ _ _ _ _ _ _ _ _ _ _ _ _ _ _ _ _ _ _ _ d1 d3 d4 rfl hq0 hq1 (by omega) (by omega)

set_option maxRecDepth 100000 in
set_option maxHeartbeats 16000000 in
theorem next_k4s (s : Sp) (o : Call) (w : World) (hk : o.kind = 4) (hN : NextOk s o) (hL : (s.loss && decide (s.start ≤ s.last)) = false) (hp : ¬ 0 < s.pend) :
    Calls Try.prog 15 #[.agg #[.int .i64 s.window, .int .i64 s.flight, .int .i64 s.thresh, .int .i64 s.pend, .bool s.can, .bool s.one, .bool s.inr, .bool s.lim, .int .i64 s.least, .int .i64 s.smooth, .int .i64 s.dev, .int .i64 s.start, .int .i64 s.last, .bool s.loss, .int .i64 s.size], .agg #[.int .i64 o.kind, .int .i64 o.space, .int .i64 o.now, .int .i64 o.time, .int .i64 o.num, .int .i64 o.size, .bool o.el, .bool o.inf, .bool o.v, .int .i64 o.latest, .int .i64 o.delay, .int .i64 o.limit]] w fun e w' => e = .returned (.agg (spCells (spNext s o))) ∧ Below w.heap.size w w' := by
  obtain ⟨hk0, hk1, hz0, hz1, hl0, hl1, hd0, hd1, ht0, ht1, hs, hq0, hq1, hq2⟩ := hN
  obtain ⟨sz0, sz1, sf0, sf1, sw0, sw1, st0, st1, sp0, sp1, hs0, hs1, hv0, hv1, hmin1⟩ := hs
  have Hk := Lib.hid hk
  have HL := Lib.hid hL
  clear hL
  have HP := Lib.hid hp
  clear hp
  clear hk
  go_enter Try.func15, Try.ntmps15
  go_upto_region 1 with (fail)
  refine wp_forget (fun w' => Blk w' (w.heap.size) 39 (spCells s) ∧ Blk w' (w.heap.size + 1) 34 #[.int .i64 o.kind, .int .i64 o.space, .int .i64 o.now, .int .i64 o.time, .int .i64 o.num, .int .i64 o.size, .bool o.el, .bool o.inf, .bool o.v, .int .i64 o.latest, .int .i64 o.delay, .int .i64 o.limit] ∧ Blk w' (w.heap.size + 2) 39 #[.int .i64 0, .int .i64 0, .int .i64 0, .int .i64 0, .bool false, .bool false, .bool false, .bool false, .int .i64 0, .int .i64 0, .int .i64 0, .int .i64 0, .int .i64 0, .bool false, .int .i64 0] ∧ Below w.heap.size w w')
    ⟨((Blk.new w 39 _).alloc _).alloc _, by simpa using (Blk.new (w.alloc _) 34 _).alloc _, by simpa using Blk.new ((w.alloc _).alloc _) 39 _, (((Below.refl _ _).alloc (Nat.le_refl _) _).alloc (by simp) _).alloc (by simp; omega) _⟩ ?_
  rintro W ⟨b1, b2, b3, b4⟩
  have ne : w.heap.size + 2 ≠ w.heap.size := by omega
  go_upto_region 1 with (fail)
  have p0 : W.cell? ⟨w.heap.size + 1, 0, none⟩ = some (.int .i64 o.kind) := b2.cell 0
  go_upto_block 0 with (fail)
  clear p0
  go_cut [0, 1, 7] (fun _ _ _ w' => Blk w' (w.heap.size) 39 (spCells (spBody s o)) ∧ Blk w' (w.heap.size + 2) 39 #[.int .i64 0, .int .i64 0, .int .i64 0, .int .i64 0, .bool false, .bool false, .bool false, .bool false, .int .i64 0, .int .i64 0, .int .i64 0, .int .i64 0, .int .i64 0, .bool false, .int .i64 0] ∧ Below w.heap.size w w')
  case first =>
    clear hq0 hq1 hq2
    have hk := Hk.out
    have q0 : (o.kind == 0) = false := by simp; omega
    have q1 : (o.kind == 1) = false := by simp; omega
    have q2 : (o.kind == 2) = false := by simp; omega
    have q3 : (o.kind == 3) = false := by simp; omega
    have q4 : (o.kind == 4) = true := by simp [hk]
    clear hk
    have c0 : W.cell? ⟨w.heap.size, 0, none⟩ = some (.int .i64 s.window) := b1.cell 0
    have c2 : W.cell? ⟨w.heap.size, 2, none⟩ = some (.int .i64 s.thresh) := b1.cell 2
    have c3 : W.cell? ⟨w.heap.size, 3, none⟩ = some (.int .i64 s.pend) := b1.cell 3
    have c5 : W.cell? ⟨w.heap.size, 5, none⟩ = some (.bool s.one) := b1.cell 5
    have c6 : W.cell? ⟨w.heap.size, 6, none⟩ = some (.bool s.inr) := b1.cell 6
    have c11 : W.cell? ⟨w.heap.size, 11, none⟩ = some (.int .i64 s.start) := b1.cell 11
    have c12 : W.cell? ⟨w.heap.size, 12, none⟩ = some (.int .i64 s.last) := b1.cell 12
    have c14 : W.cell? ⟨w.heap.size, 14, none⟩ = some (.int .i64 s.size) := b1.cell 14
    have p2 : W.cell? ⟨w.heap.size + 1, 2, none⟩ = some (.int .i64 o.now) := b2.cell 2
    have f0 := b1.frozen 0
    have f2 := b1.frozen 2
    have f3 := b1.frozen 3
    have f5 := b1.frozen 5
    have f6 := b1.frozen 6
    have f11 := b1.frozen 11
    go_upto_block 1 with (fail)
    go_cut [0, 1, 7] (fun _ _ _ w' => Blk w' (w.heap.size) 39 (spCells (spEnd s o.now)) ∧ Blk w' (w.heap.size + 2) 39 #[.int .i64 0, .int .i64 0, .int .i64 0, .int .i64 0, .bool false, .bool false, .bool false, .bool false, .int .i64 0, .int .i64 0, .int .i64 0, .int .i64 0, .int .i64 0, .bool false, .int .i64 0] ∧ Below w.heap.size w w')
    case first =>
      go_upto_region 22 with (fail)
      go_cut [0, 1, 7, 80] (fun _ _ _ s80 w' => s80 = .bool false ∧ w' = W)
      case first =>
        rcases hls : s.loss with _ | _
        · have c13 : W.cell? ⟨w.heap.size, 13, none⟩ = some (.bool false) := hls ▸ b1.cell 13
          go_wp2_with fail
          go_meet
          exact ⟨rfl, rfl⟩
        · have c13 : W.cell? ⟨w.heap.size, 13, none⟩ = some (.bool true) := hls ▸ b1.cell 13
          have hst : ¬ s.start ≤ s.last := by have := HL.out; rw [hls] at this; simpa using this
          have dst : decide (s.start ≤ s.last) = false := by simpa using hst
          go_wp2_with fail
          go_meet
          exact ⟨rfl, rfl⟩
      case rest =>
        obtain ⟨h80, hW⟩ := hcut
        subst h80
        subst hW
        have hp := HP.out
        have dp : decide (0 < s.pend) = false := by simpa using hp
        have hE : spEnd s o.now = s := by simp [spEnd, HL.out, hp]
        have He := Lib.hid (show spCells (spEnd s o.now) = spCells s by rw [hE])
        clear hE hp
        go_wp2_with fail
        go_meet
        refine ⟨?_, ?_, ?_⟩
        · rw [He.out]
          repeat (with_reducible (first | assumption | refine Blk.drew ?_ | refine Blk.drewN ?_ _ | refine Blk.put ?_ _ _))
        · repeat (with_reducible (first | assumption | refine Blk.drew ?_ | refine Blk.drewN ?_ _ | refine Blk.far ?_ ne _))
        · repeat (with_reducible (first | assumption | refine Below.drew ?_ | refine below_drewN ?_ _ | refine Below.setCell ?_ (by exact Nat.le_refl _) _))
    case rest =>
      clear b1 b2 b3 b4 c0 c2 c3 c5 c6 c11 c12 c14 p2 f0 f2 f3 f5 f6 f11
      obtain ⟨b1, b3, b4⟩ := hcut
      obtain ⟨t, ht⟩ : ∃ t, spEnd s o.now = t := ⟨_, rfl⟩
      rw [ht] at b1
      have f13 := b1.frozen 13
      have c13 : wc.cell? ⟨w.heap.size, 13, none⟩ = some (.bool t.loss) := b1.cell 13
      have He := Lib.hid (show spCells (spBody s o) = (spCells t).setIfInBounds 13 (.bool false) by rw [← ht]; simp [spCells, spBody, Hk.out])
      clear ht
      go_wp2_with fail
      go_meet
      refine ⟨?_, ?_, ?_⟩
      · rw [He.out]
        repeat (with_reducible (first | assumption | refine Blk.drew ?_ | refine Blk.drewN ?_ _ | refine Blk.put ?_ _ _))
      · repeat (with_reducible (first | assumption | refine Blk.drew ?_ | refine Blk.drewN ?_ _ | refine Blk.far ?_ ne _))
      · repeat (with_reducible (first | assumption | refine Below.drew ?_ | refine below_drewN ?_ _ | refine Below.setCell ?_ (by exact Nat.le_refl _) _))
  case rest =>
    obtain ⟨d1, d3, d4⟩ := hcut
    go_step
    exact next_tail s o (spBody s o) w wc _ _ _ _ _ _ _ _ _ _ _ _ _ _ _ _ _ _ _ _ _ _ _ _ _ _ _ _ _ _ _ _ _ _ _ _ _ _ _ _ _ _ _ _ _ _ _ _ _ _ _ _ _ _ _ _ _ _ _ _ _ _ _ _ _ _ _ _ _ _ _ _ _ _ _ _ _ _ _ _ _ _ _ _ _ _ _ _ _ _ _ _ _ _ _ _ _ _ _ _ _ _ _ _ _ _ _ _ _ _ _ _ _ _ _ _ _ _ _ _ _ _ _ _ _ _ _ _ _ _ _ _ _ _ _ _ _ _ _ _ _ _ _ _ _ _ _ _ _ _ _ _ _ _ _ _ _ _ _ _ _ _ _ _ _ _ _ _ _ _ _ _ _ _ d1 d3 d4 rfl hq0 hq1 (by omega) (by omega)


end Go.Proofs.Ytpaociigfbibbaa
