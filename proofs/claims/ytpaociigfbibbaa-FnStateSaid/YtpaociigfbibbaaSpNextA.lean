/-
  The reference: the contract of Next, where a packet is sent or acknowledged.
-/
import Derived.Test.YtpaociigfbibbaaSpTail
namespace Go.Proofs.Ytpaociigfbibbaa
open Go.RowKit
attribute [local go_sem ↓] sp_min sp_max

set_option maxRecDepth 100000 in
set_option maxHeartbeats 16000000 in
theorem next_k0 (s : Sp) (o : Call) (w : World) (hk : o.kind = 0) (hN : NextOk s o) :
    Calls Try.prog 15 #[.agg #[.int .i64 s.window, .int .i64 s.flight, .int .i64 s.thresh, .int .i64 s.pend, .bool s.can, .bool s.one, .bool s.inr, .bool s.lim, .int .i64 s.least, .int .i64 s.smooth, .int .i64 s.dev, .int .i64 s.start, .int .i64 s.last, .bool s.loss, .int .i64 s.size], .agg #[.int .i64 o.kind, .int .i64 o.space, .int .i64 o.now, .int .i64 o.time, .int .i64 o.num, .int .i64 o.size, .bool o.el, .bool o.inf, .bool o.v, .int .i64 o.latest, .int .i64 o.delay, .int .i64 o.limit]] w fun e w' => e = .returned (.agg (spCells (spNext s o))) ∧ Below w.heap.size w w' := by
  obtain ⟨hk0, hk1, hz0, hz1, hl0, hl1, hd0, hd1, ht0, ht1, hs, hq0, hq1, hq2⟩ := hN
  obtain ⟨sz0, sz1, sf0, sf1, sw0, sw1, st0, st1, sp0, sp1, hs0, hs1, hv0, hv1, hmin1⟩ := hs
  have Hk := Lib.hid hk
  clear hk
  go_enter Try.func15, Try.ntmps15
  go_upto_region 1 with (fail)
  refine wp_forget (fun w' => Blk w' (w.heap.size) 39 (spCells s) ∧ Blk w' (w.heap.size + 1) 34 #[.int .i64 o.kind, .int .i64 o.space, .int .i64 o.now, .int .i64 o.time, .int .i64 o.num, .int .i64 o.size, .bool o.el, .bool o.inf, .bool o.v, .int .i64 o.latest, .int .i64 o.delay, .int .i64 o.limit] ∧ Blk w' (w.heap.size + 2) 39 #[.int .i64 0, .int .i64 0, .int .i64 0, .int .i64 0, .bool false, .bool false, .bool false, .bool false, .int .i64 0, .int .i64 0, .int .i64 0, .int .i64 0, .int .i64 0, .bool false, .int .i64 0] ∧ Below w.heap.size w w')
    ⟨((Blk.new w 39 _).alloc _).alloc _, by simpa using (Blk.new (w.alloc _) 34 _).alloc _, by simpa using Blk.new ((w.alloc _).alloc _) 39 _, (((Below.refl _ _).alloc (Nat.le_refl _) _).alloc (by simp) _).alloc (by simp; omega) _⟩ ?_
  rintro W ⟨b1, b2, b3, b4⟩
  have ne : w.heap.size + 2 ≠ w.heap.size := by omega
  go_upto_region 1 with (fail)
  have p0 : W.cell? ⟨w.heap.size + 1, 0, none⟩ = some (.int .i64 o.kind) := b2.cell 0
  go_upto_block 0 with (fail)
  clear p0
  go_cut [0, 1, 7] (fun _ _ _ w' => Blk w' (w.heap.size) 39 (spCells (spBody s o)) ∧ Blk w' (w.heap.size + 2) 39 #[.int .i64 0, .int .i64 0, .int .i64 0, .int .i64 0, .bool false, .bool false, .bool false, .bool false, .int .i64 0, .int .i64 0, .int .i64 0, .int .i64 0, .int .i64 0, .bool false, .int .i64 0] ∧ Below w.heap.size w w')
  case first =>
    clear hq0 hq1 hq2
    have hk := Hk.out
    have q0 : (o.kind == 0) = true := by simp [hk]
    have c1 : W.cell? ⟨w.heap.size, 1, none⟩ = some (.int .i64 s.flight) := b1.cell 1
    have c5 : W.cell? ⟨w.heap.size, 5, none⟩ = some (.bool s.one) := b1.cell 5
    have p5 : W.cell? ⟨w.heap.size + 1, 5, none⟩ = some (.int .i64 o.size) := b2.cell 5
    have f1 := b1.frozen 1
    have f5 := b1.frozen 5
    have hw : IntKind.i64.wrap (s.flight + o.size) = s.flight + o.size := IntWalk.i64_in _ (by omega)
    rcases hinf : o.inf with _ | _
    · have p7 : W.cell? ⟨w.heap.size + 1, 7, none⟩ = some (.bool false) := hinf ▸ b2.cell 7
      have He := Lib.hid (show spCells (spBody s o) = spCells s by simp [spCells, spBody, hk, hinf])
      clear hinf hk
      go_wp2_with fail
      go_meet
      refine ⟨?_, ?_, ?_⟩
      · rw [He.out]
        repeat (with_reducible (first | assumption | refine Blk.drew ?_ | refine Blk.drewN ?_ _ | refine Blk.put ?_ _ _))
      · repeat (with_reducible (first | assumption | refine Blk.drew ?_ | refine Blk.drewN ?_ _ | refine Blk.far ?_ ne _))
      · repeat (with_reducible (first | assumption | refine Below.drew ?_ | refine below_drewN ?_ _ | refine Below.setCell ?_ (by exact Nat.le_refl _) _))
    · have p7 : W.cell? ⟨w.heap.size + 1, 7, none⟩ = some (.bool true) := hinf ▸ b2.cell 7
      have He := Lib.hid (show spCells (spBody s o) = ((spCells s).setIfInBounds 1 (.int .i64 (s.flight + o.size))).setIfInBounds 5 (.bool false) by simp [spCells, spBody, hk, hinf])
      clear hinf hk
      go_wp2_with fail
      go_meet
      refine ⟨?_, ?_, ?_⟩
      · rw [He.out]
        repeat (with_reducible (first | assumption | refine Blk.drew ?_ | refine Blk.drewN ?_ _ | refine Blk.put ?_ _ _))
      · repeat (with_reducible (first | assumption | refine Blk.drew ?_ | refine Blk.drewN ?_ _ | refine Blk.far ?_ ne _))
      · repeat (with_reducible (first | assumption | refine Below.drew ?_ | refine below_drewN ?_ _ | refine Below.setCell ?_ (by exact Nat.le_refl _) _))
  case rest =>
    obtain ⟨d1, d3, d4⟩ := hcut
    go_step
    exact next_tail s o (spBody s o) w wc _ _ _ _ _ _ _ _ _ _ _ _ _ _ _ _ _ _ _ _ _ _ _ _ _ _ _ _ _ _ _ _ _ _ _ _ _ _ _ _ _ _ _ _ _ _ _ _ _ _ _ _ _ _ _ _ _ _ _ _ _ _ _ _ _ _ _ _ _ _ _ _ _ _ _ _ _ _ _ _ _ _ _ _ _ _ _ _ _ _ _ _ _ _ _ _ _ _ _ _ _ _ _ _ _ _ _ _ _ _ _ _ _ _ _ _ _ _ _ _ _ _ _ _ _ _ _ _ _ _ _ _ _ _ _ _ _ _ _ _ _ _ _ _ _ _ _ _ _ _ _ _ _ _ _ _ _ _ _ _ _ _ _ _ _ _ _ _ _ _ _ _ _ _ d1 d3 d4 rfl hq0 hq1 (by omega) (by omega)

set_option maxRecDepth 100000 in
set_option maxHeartbeats 16000000 in
theorem next_k1 (s : Sp) (o : Call) (w : World) (hk : o.kind = 1) (hN : NextOk s o) :
    Calls Try.prog 15 #[.agg #[.int .i64 s.window, .int .i64 s.flight, .int .i64 s.thresh, .int .i64 s.pend, .bool s.can, .bool s.one, .bool s.inr, .bool s.lim, .int .i64 s.least, .int .i64 s.smooth, .int .i64 s.dev, .int .i64 s.start, .int .i64 s.last, .bool s.loss, .int .i64 s.size], .agg #[.int .i64 o.kind, .int .i64 o.space, .int .i64 o.now, .int .i64 o.time, .int .i64 o.num, .int .i64 o.size, .bool o.el, .bool o.inf, .bool o.v, .int .i64 o.latest, .int .i64 o.delay, .int .i64 o.limit]] w fun e w' => e = .returned (.agg (spCells (spNext s o))) ∧ Below w.heap.size w w' := by
  obtain ⟨hk0, hk1, hz0, hz1, hl0, hl1, hd0, hd1, ht0, ht1, hs, hq0, hq1, hq2⟩ := hN
  obtain ⟨sz0, sz1, sf0, sf1, sw0, sw1, st0, st1, sp0, sp1, hs0, hs1, hv0, hv1, hmin1⟩ := hs
  have Hk := Lib.hid hk
  clear hk
  go_enter Try.func15, Try.ntmps15
  go_upto_region 1 with (fail)
  refine wp_forget (fun w' => Blk w' (w.heap.size) 39 (spCells s) ∧ Blk w' (w.heap.size + 1) 34 #[.int .i64 o.kind, .int .i64 o.space, .int .i64 o.now, .int .i64 o.time, .int .i64 o.num, .int .i64 o.size, .bool o.el, .bool o.inf, .bool o.v, .int .i64 o.latest, .int .i64 o.delay, .int .i64 o.limit] ∧ Blk w' (w.heap.size + 2) 39 #[.int .i64 0, .int .i64 0, .int .i64 0, .int .i64 0, .bool false, .bool false, .bool false, .bool false, .int .i64 0, .int .i64 0, .int .i64 0, .int .i64 0, .int .i64 0, .bool false, .int .i64 0] ∧ Below w.heap.size w w')
    ⟨((Blk.new w 39 _).alloc _).alloc _, by simpa using (Blk.new (w.alloc _) 34 _).alloc _, by simpa using Blk.new ((w.alloc _).alloc _) 39 _, (((Below.refl _ _).alloc (Nat.le_refl _) _).alloc (by simp) _).alloc (by simp; omega) _⟩ ?_
  rintro W ⟨b1, b2, b3, b4⟩
  have ne : w.heap.size + 2 ≠ w.heap.size := by omega
  go_upto_region 1 with (fail)
  have p0 : W.cell? ⟨w.heap.size + 1, 0, none⟩ = some (.int .i64 o.kind) := b2.cell 0
  go_upto_block 0 with (fail)
  clear p0
  go_cut [0, 1, 7] (fun _ _ _ w' => Blk w' (w.heap.size) 39 (spCells (spBody s o)) ∧ Blk w' (w.heap.size + 2) 39 #[.int .i64 0, .int .i64 0, .int .i64 0, .int .i64 0, .bool false, .bool false, .bool false, .bool false, .int .i64 0, .int .i64 0, .int .i64 0, .int .i64 0, .int .i64 0, .bool false, .int .i64 0] ∧ Below w.heap.size w w')
  case first =>
    clear hq0 hq1 hq2
    have hk := Hk.out
    have q0 : (o.kind == 0) = false := by simp; omega
    have q1 : (o.kind == 1) = true := by simp [hk]
    have c1 : W.cell? ⟨w.heap.size, 1, none⟩ = some (.int .i64 s.flight) := b1.cell 1
    have c3 : W.cell? ⟨w.heap.size, 3, none⟩ = some (.int .i64 s.pend) := b1.cell 3
    have c11 : W.cell? ⟨w.heap.size, 11, none⟩ = some (.int .i64 s.start) := b1.cell 11
    have p3 : W.cell? ⟨w.heap.size + 1, 3, none⟩ = some (.int .i64 o.time) := b2.cell 3
    have p5 : W.cell? ⟨w.heap.size + 1, 5, none⟩ = some (.int .i64 o.size) := b2.cell 5
    have f1 := b1.frozen 1
    have f3 := b1.frozen 3
    have hw : IntKind.i64.wrap (s.flight - o.size) = s.flight - o.size := IntWalk.i64_in _ (by omega)
    have hw2 : IntKind.i64.wrap (s.pend + o.size) = s.pend + o.size := IntWalk.i64_in _ (by omega)
    rcases hinf : o.inf with _ | _
    · have p7 : W.cell? ⟨w.heap.size + 1, 7, none⟩ = some (.bool false) := hinf ▸ b2.cell 7
      have He := Lib.hid (show spCells (spBody s o) = spCells s by simp [spCells, spBody, hk, hinf])
      clear hinf hk
      go_wp2_with fail
      go_meet
      refine ⟨?_, ?_, ?_⟩
      · rw [He.out]
        repeat (with_reducible (first | assumption | refine Blk.drew ?_ | refine Blk.drewN ?_ _ | refine Blk.put ?_ _ _))
      · repeat (with_reducible (first | assumption | refine Blk.drew ?_ | refine Blk.drewN ?_ _ | refine Blk.far ?_ ne _))
      · repeat (with_reducible (first | assumption | refine Below.drew ?_ | refine below_drewN ?_ _ | refine Below.setCell ?_ (by exact Nat.le_refl _) _))
    · have p7 : W.cell? ⟨w.heap.size + 1, 7, none⟩ = some (.bool true) := hinf ▸ b2.cell 7
      rcases hlim : s.lim with _ | _
      · have c7 : W.cell? ⟨w.heap.size, 7, none⟩ = some (.bool false) := hlim ▸ b1.cell 7
        by_cases ht : o.time < s.start
        · have dt : decide (o.time < s.start) = true := by simpa using ht
          have He := Lib.hid (show spCells (spBody s o) = (spCells s).setIfInBounds 1 (.int .i64 (s.flight - o.size)) by simp [spCells, spBody, hk, hinf, hlim, ht])
          clear hinf hk hlim ht
          go_wp2_with fail
          go_meet
          refine ⟨?_, ?_, ?_⟩
          · rw [He.out]
            repeat (with_reducible (first | assumption | refine Blk.drew ?_ | refine Blk.drewN ?_ _ | refine Blk.put ?_ _ _))
          · repeat (with_reducible (first | assumption | refine Blk.drew ?_ | refine Blk.drewN ?_ _ | refine Blk.far ?_ ne _))
          · repeat (with_reducible (first | assumption | refine Below.drew ?_ | refine below_drewN ?_ _ | refine Below.setCell ?_ (by exact Nat.le_refl _) _))
        · have dt : decide (o.time < s.start) = false := by simpa using ht
          have He := Lib.hid (show spCells (spBody s o) = ((spCells s).setIfInBounds 1 (.int .i64 (s.flight - o.size))).setIfInBounds 3 (.int .i64 (s.pend + o.size)) by simp [spCells, spBody, hk, hinf, hlim, ht])
          clear hinf hk hlim ht
          go_wp2_with fail
          go_meet
          refine ⟨?_, ?_, ?_⟩
          · rw [He.out]
            repeat (with_reducible (first | assumption | refine Blk.drew ?_ | refine Blk.drewN ?_ _ | refine Blk.put ?_ _ _))
          · repeat (with_reducible (first | assumption | refine Blk.drew ?_ | refine Blk.drewN ?_ _ | refine Blk.far ?_ ne _))
          · repeat (with_reducible (first | assumption | refine Below.drew ?_ | refine below_drewN ?_ _ | refine Below.setCell ?_ (by exact Nat.le_refl _) _))
      · have c7 : W.cell? ⟨w.heap.size, 7, none⟩ = some (.bool true) := hlim ▸ b1.cell 7
        have He := Lib.hid (show spCells (spBody s o) = (spCells s).setIfInBounds 1 (.int .i64 (s.flight - o.size)) by simp [spCells, spBody, hk, hinf, hlim])
        clear hinf hk hlim
        go_wp2_with fail
        go_meet
        refine ⟨?_, ?_, ?_⟩
        · rw [He.out]
          repeat (with_reducible (first | assumption | refine Blk.drew ?_ | refine Blk.drewN ?_ _ | refine Blk.put ?_ _ _))
        · repeat (with_reducible (first | assumption | refine Blk.drew ?_ | refine Blk.drewN ?_ _ | refine Blk.far ?_ ne _))
        · repeat (with_reducible (first | assumption | refine Below.drew ?_ | refine below_drewN ?_ _ | refine Below.setCell ?_ (by exact Nat.le_refl _) _))
  case rest =>
    obtain ⟨d1, d3, d4⟩ := hcut
    go_step
    exact next_tail s o (spBody s o) w wc _ _ _ _ _ _ _ _ _ _ _ _ _ _ _ _ _ _ _ _ _ _ _ _ _ _ _ _ _ _ _ _ _ _ _ _ _ _ _ _ _ _ _ _ _ _ _ _ _ _ _ _ _ _ _ _ _ _ _ _ _ _ _ _ _ _ _ _ _ _ _ _ _ _ _ _ _ _ _ _ _ _ _ _ _ _ _ _ _ _ _ _ _ _ _ _ _ _ _ _ _ _ _ _ _ _ _ _ _ _ _ _ _ _ _ _ _ _ _ _ _ _ _ _ _ _ _ _ _ _ _ _ _ _ _ _ _ _ _ _ _ _ _ _ _ _ _ _ _ _ _ _ _ _ _ _ _ _ _ _ _ _ _ _ _ _ _ _ _ _ _ _ _ _ d1 d3 d4 rfl hq0 hq1 (by omega) (by omega)


end Go.Proofs.Ytpaociigfbibbaa
