/-
  The reference: the contract of Next, at the end of a batch without a loss, where bytes pend.
-/
import Derived.Test.YtpaociigfbibbaaSpTail
namespace Go.Proofs.Ytpaociigfbibbaa
open Go.RowKit
attribute [local go_sem ↓] sp_min sp_max

set_option maxRecDepth 100000 in
set_option maxHeartbeats 16000000 in
theorem next_k4g (s : Sp) (o : Call) (w : World) (hk : o.kind = 4) (hN : NextOk s o) (hL : (s.loss && decide (s.start ≤ s.last)) = false) (hp : 0 < s.pend) :
    Calls Try.prog 15 #[.agg #[.int .i64 s.window, .int .i64 s.flight, .int .i64 s.thresh, .int .i64 s.pend, .bool s.can, .bool s.one, .bool s.inr, .bool s.lim, .int .i64 s.least, .int .i64 s.smooth, .int .i64 s.dev, .int .i64 s.start, .int .i64 s.last, .bool s.loss, .int .i64 s.size], .agg #[.int .i64 o.kind, .int .i64 o.space, .int .i64 o.now, .int .i64 o.time, .int .i64 o.num, .int .i64 o.size, .bool o.el, .bool o.inf, .bool o.v, .int .i64 o.latest, .int .i64 o.delay, .int .i64 o.limit]] w fun e w' => e = .returned (.agg (spCells (spNext s o))) ∧ Below w.heap.size w w' := by
  obtain ⟨hk0, hk1, hz0, hz1, hl0, hl1, hd0, hd1, ht0, ht1, hs, hq0, hq1, hq2⟩ := hN
  obtain ⟨sz0, sz1, sf0, sf1, sw0, sw1, st0, st1, sp0, sp1, hs0, hs1, hv0, hv1, hmin1⟩ := hs
  have Hk := Lib.hid hk
  have HL := Lib.hid hL
  clear hL
  have HP := Lib.hid hp
  clear hp
  clear hk
  go_enter Try.func15, Try.ntmps15
  go_upto_region 1 with (fail)
  refine wp_forget (fun w' => Blk w' (w.heap.size) 39 (spCells s) ∧ Blk w' (w.heap.size + 1) 34 #[.int .i64 o.kind, .int .i64 o.space, .int .i64 o.now, .int .i64 o.time, .int .i64 o.num, .int .i64 o.size, .bool o.el, .bool o.inf, .bool o.v, .int .i64 o.latest, .int .i64 o.delay, .int .i64 o.limit] ∧ Blk w' (w.heap.size + 2) 39 #[.int .i64 0, .int .i64 0, .int .i64 0, .int .i64 0, .bool false, .bool false, .bool false, .bool false, .int .i64 0, .int .i64 0, .int .i64 0, .int .i64 0, .int .i64 0, .bool false, .int .i64 0] ∧ Below w.heap.size w w')
    ⟨((Blk.new w 39 _).alloc _).alloc _, by simpa using (Blk.new (w.alloc _) 34 _).alloc _, by simpa using Blk.new ((w.alloc _).alloc _) 39 _, (((Below.refl _ _).alloc (Nat.le_refl _) _).alloc (by simp) _).alloc (by simp; omega) _⟩ ?_
  rintro W ⟨b1, b2, b3, b4⟩
  have ne : w.heap.size + 2 ≠ w.heap.size := by omega
  go_upto_region 1 with (fail)
  have p0 : W.cell? ⟨w.heap.size + 1, 0, none⟩ = some (.int .i64 o.kind) := b2.cell 0
  go_upto_block 0 with (fail)
  clear p0
  go_cut [0, 1, 7] (fun _ _ _ w' => Blk w' (w.heap.size) 39 (spCells (spBody s o)) ∧ Blk w' (w.heap.size + 2) 39 #[.int .i64 0, .int .i64 0, .int .i64 0, .int .i64 0, .bool false, .bool false, .bool false, .bool false, .int .i64 0, .int .i64 0, .int .i64 0, .int .i64 0, .int .i64 0, .bool false, .int .i64 0] ∧ Below w.heap.size w w')
  case first =>
    clear hq0 hq1 hq2
    have hk := Hk.out
    have q0 : (o.kind == 0) = false := by simp; omega
    have q1 : (o.kind == 1) = false := by simp; omega
    have q2 : (o.kind == 2) = false := by simp; omega
    have q3 : (o.kind == 3) = false := by simp; omega
    have q4 : (o.kind == 4) = true := by simp [hk]
    clear hk
    have c0 : W.cell? ⟨w.heap.size, 0, none⟩ = some (.int .i64 s.window) := b1.cell 0
    have c2 : W.cell? ⟨w.heap.size, 2, none⟩ = some (.int .i64 s.thresh) := b1.cell 2
    have c3 : W.cell? ⟨w.heap.size, 3, none⟩ = some (.int .i64 s.pend) := b1.cell 3
    have c5 : W.cell? ⟨w.heap.size, 5, none⟩ = some (.bool s.one) := b1.cell 5
    have c6 : W.cell? ⟨w.heap.size, 6, none⟩ = some (.bool s.inr) := b1.cell 6
    have c11 : W.cell? ⟨w.heap.size, 11, none⟩ = some (.int .i64 s.start) := b1.cell 11
    have c12 : W.cell? ⟨w.heap.size, 12, none⟩ = some (.int .i64 s.last) := b1.cell 12
    have c14 : W.cell? ⟨w.heap.size, 14, none⟩ = some (.int .i64 s.size) := b1.cell 14
    have p2 : W.cell? ⟨w.heap.size + 1, 2, none⟩ = some (.int .i64 o.now) := b2.cell 2
    have f0 := b1.frozen 0
    have f2 := b1.frozen 2
    have f3 := b1.frozen 3
    have f5 := b1.frozen 5
    have f6 := b1.frozen 6
    have f11 := b1.frozen 11
    go_upto_block 1 with (fail)
    go_cut [0, 1, 7] (fun _ _ _ w' => Blk w' (w.heap.size) 39 (spCells (spEnd s o.now)) ∧ Blk w' (w.heap.size + 2) 39 #[.int .i64 0, .int .i64 0, .int .i64 0, .int .i64 0, .bool false, .bool false, .bool false, .bool false, .int .i64 0, .int .i64 0, .int .i64 0, .int .i64 0, .int .i64 0, .bool false, .int .i64 0] ∧ Below w.heap.size w w')
    case first =>
      go_upto_region 22 with (fail)
      go_cut [0, 1, 7, 80] (fun _ _ _ s80 w' => s80 = .bool false ∧ w' = W)
      case first =>
        rcases hls : s.loss with _ | _
        · have c13 : W.cell? ⟨w.heap.size, 13, none⟩ = some (.bool false) := hls ▸ b1.cell 13
          go_wp2_with fail
          go_meet
          exact ⟨rfl, rfl⟩
        · have c13 : W.cell? ⟨w.heap.size, 13, none⟩ = some (.bool true) := hls ▸ b1.cell 13
          have hst : ¬ s.start ≤ s.last := by have := HL.out; rw [hls] at this; simpa using this
          have dst : decide (s.start ≤ s.last) = false := by simpa using hst
          go_wp2_with fail
          go_meet
          exact ⟨rfl, rfl⟩
      case rest =>
        obtain ⟨h80, hW⟩ := hcut
        subst h80
        subst hW
        have hp := HP.out
        have dp : decide (0 < s.pend) = true := by simpa using hp
        have Hg := Lib.hid (show spEnd s o.now = spGrown s by simp [spEnd, HL.out, hp])
        go_upto_region 29 with (fail)
        refine wp_forget (fun w' => Blk w' (w.heap.size) 39 (spCells ({ s with inr := false })) ∧ Blk w' (w.heap.size + 2) 39 #[.int .i64 0, .int .i64 0, .int .i64 0, .int .i64 0, .bool false, .bool false, .bool false, .bool false, .int .i64 0, .int .i64 0, .int .i64 0, .int .i64 0, .int .i64 0, .bool false, .int .i64 0] ∧ Below w.heap.size w w') ⟨blk_eq (b1.put 6 _) (by simp [spCells]), b3.far ne _, ?_⟩ ?_
        · repeat (with_reducible (first | assumption | refine Below.drew ?_ | refine below_drewN ?_ _ | refine Below.setCell ?_ (by exact Nat.le_refl _) _))
        rintro W1 ⟨e1, e2, e3⟩
        clear b1 b2 b3 b4 c0 c2 c3 c5 c6 c11 c12 c14 p2 f0 f2 f3 f5 f6 f11
        have c0 : W1.cell? ⟨w.heap.size, 0, none⟩ = some (.int .i64 s.window) := e1.cell 0
        have c2 : W1.cell? ⟨w.heap.size, 2, none⟩ = some (.int .i64 s.thresh) := e1.cell 2
        have c3 : W1.cell? ⟨w.heap.size, 3, none⟩ = some (.int .i64 s.pend) := e1.cell 3
        have f0 := e1.frozen 0
        have f3 := e1.frozen 3
        go_upto_if 116 with (fail)
        go_cut [0, 1, 7] (fun _ _ _ w' => Blk w' (w.heap.size) 39 (spCells ({ s with inr := false, window := s.window + spFill s, pend := s.pend - spFill s })) ∧ Blk w' (w.heap.size + 2) 39 #[.int .i64 0, .int .i64 0, .int .i64 0, .int .i64 0, .bool false, .bool false, .bool false, .bool false, .int .i64 0, .int .i64 0, .int .i64 0, .int .i64 0, .int .i64 0, .bool false, .int .i64 0] ∧ Below w.heap.size w w')
        case first =>
          by_cases hwt : s.window < s.thresh
          · obtain ⟨d, hd⟩ : ∃ d, spFill s = d := ⟨_, rfl⟩
            have hd2 : min (s.thresh - s.window) s.pend = d := by rw [← hd]; simp [spFill, hwt]
            have hw1 : IntKind.i64.wrap (s.thresh - s.window) = s.thresh - s.window := IntWalk.i64_in _ (by omega)
            have hw2 : IntKind.i64.wrap (s.window + d) = s.window + d := IntWalk.i64_in _ (by omega)
            have hw3 : IntKind.i64.wrap (s.pend - d) = s.pend - d := IntWalk.i64_in _ (by omega)
            have Hd := Lib.hid hd
            clear hd
            go_wp2_with fail
            go_meet
            refine ⟨?_, ?_, ?_⟩
            · rw [Hd.out]
              exact blk_eq ((e1.put 0 _).put 3 _) (by simp [spCells])
            · repeat (with_reducible (first | assumption | refine Blk.drew ?_ | refine Blk.drewN ?_ _ | refine Blk.far ?_ ne _))
            · repeat (with_reducible (first | assumption | refine Below.drew ?_ | refine below_drewN ?_ _ | refine Below.setCell ?_ (by exact Nat.le_refl _) _))
          · have hfs : spFill s = 0 := by simp [spFill, hwt]
            have Hfs := Lib.hid hfs
            clear hfs
            go_wp2_with fail
            go_meet
            exact ⟨by rw [Hfs.out, Int.add_zero, Int.sub_zero]; exact e1, e2, e3⟩
        case rest =>
          obtain ⟨b1, b2, b3⟩ := hcut
          clear c0 c2 c3 f0 f3 e1 e2 e3
          have hd0 : 0 ≤ spFill s := by unfold spFill; split <;> omega
          have hd1 : spFill s ≤ s.pend := by unfold spFill; split <;> omega
          obtain ⟨d, hd⟩ : ∃ d, spFill s = d := ⟨_, rfl⟩
          rw [hd] at b1 hd0 hd1
          have Hd := Lib.hid hd
          clear hd
          go_wp2_with fail
          go_loopg [] s.pend.toNat (fun n wr => ∃ wi pe : Int, Blk wr (w.heap.size) 39 (spCells { s with inr := false, window := wi, pend := pe }) ∧ Blk wr (w.heap.size + 2) 39 #[.int .i64 0, .int .i64 0, .int .i64 0, .int .i64 0, .bool false, .bool false, .bool false, .bool false, .int .i64 0, .int .i64 0, .int .i64 0, .int .i64 0, .int .i64 0, .bool false, .int .i64 0] ∧ Below w.heap.size w wr ∧
            Hid (grow s.size n wi pe = grow s.size s.pend.toNat (s.window + d) (s.pend - d)) ∧ s.size ≤ wi ∧ 0 ≤ pe ∧ pe ≤ n ∧ wi + pe ≤ 2199023255552)
          case atStart => exact ⟨_, _, b1, b2, b3, rfl, by omega, by omega, by omega, by omega⟩
          case round =>
            obtain ⟨wi, pe, e1, e2, e3, hg, k1, k2, k3, k4⟩ := hrel
            have c0 : wr.cell? ⟨w.heap.size, 0, none⟩ = some (.int .i64 wi) := e1.cell 0
            have c3 : wr.cell? ⟨w.heap.size, 3, none⟩ = some (.int .i64 pe) := e1.cell 3
            have c14 : wr.cell? ⟨w.heap.size, 14, none⟩ = some (.int .i64 s.size) := e1.cell 14
            have f0 := e1.frozen 0
            have f3 := e1.frozen 3
            have hw1 : IntKind.i64.wrap (pe - wi) = pe - wi := IntWalk.i64_in _ (by omega)
            have hw2 : IntKind.i64.wrap (wi + s.size) = wi + s.size := IntWalk.i64_in _ (by omega)
            by_cases hlt : wi < pe
            · have dlt : decide (wi < pe) = true := by simpa using hlt
              go_wp2_with fail
              have hg2 := Lib.hid ((grow_step s.size hlt (by omega)).symm.trans hg.out)
              clear c0 c3 c14 f0 f3 hw1 hw2
              go_roundg (gk - 1)
              case measure => omega
              case rel =>
                refine ⟨wi + s.size, pe - wi, ?_, ?_, ?_, hg2, by omega, by omega, by omega, by omega⟩
                · exact blk_eq ((e1.put 3 _).put 0 _) (by simp [spCells])
                · repeat (with_reducible (first | assumption | refine Blk.drew ?_ | refine Blk.drewN ?_ _ | refine Blk.far ?_ ne _))
                · repeat (with_reducible (first | assumption | refine Below.drew ?_ | refine below_drewN ?_ _ | refine Below.setCell ?_ (by exact Nat.le_refl _) _))
            · have dlt : decide (wi < pe) = false := by simpa using hlt
              go_wp2_with fail
              go_meet
              have hgr : grow s.size s.pend.toNat (s.window + d) (s.pend - d) = (wi, pe) := hg.out.symm.trans (grow_stop _ _ (by omega))
              have hfin : spEnd s o.now = { s with inr := false, window := wi, pend := pe } := by rw [Hg.out]; unfold spGrown; rw [Hd.out, hgr]
              exact ⟨by rw [hfin]; exact e1, e2, e3⟩
    case rest =>
      clear b1 b2 b3 b4 c0 c2 c3 c5 c6 c11 c12 c14 p2 f0 f2 f3 f5 f6 f11
      obtain ⟨b1, b3, b4⟩ := hcut
      obtain ⟨t, ht⟩ : ∃ t, spEnd s o.now = t := ⟨_, rfl⟩
      rw [ht] at b1
      have f13 := b1.frozen 13
      have c13 : wc.cell? ⟨w.heap.size, 13, none⟩ = some (.bool t.loss) := b1.cell 13
      have He := Lib.hid (show spCells (spBody s o) = (spCells t).setIfInBounds 13 (.bool false) by rw [← ht]; simp [spCells, spBody, Hk.out])
      clear ht
      go_wp2_with fail
      go_meet
      refine ⟨?_, ?_, ?_⟩
      · rw [He.out]
        repeat (with_reducible (first | assumption | refine Blk.drew ?_ | refine Blk.drewN ?_ _ | refine Blk.put ?_ _ _))
      · repeat (with_reducible (first | assumption | refine Blk.drew ?_ | refine Blk.drewN ?_ _ | refine Blk.far ?_ ne _))
      · repeat (with_reducible (first | assumption | refine Below.drew ?_ | refine below_drewN ?_ _ | refine Below.setCell ?_ (by exact Nat.le_refl _) _))
  case rest =>
    obtain ⟨d1, d3, d4⟩ := hcut
    go_step
    exact next_tail s o (spBody s o) w wc _ _ _ _ _ _ _ _ _ _ _ _ _ _ _ _ _ _ _ _ _ _ _ _ _ _ _ _ _ _ _ _ _ _ _ _ _ _ _ _ _ _ _ _ _ _ _ _ _ _ _ _ _ _ _ _ _ _ _ _ _ _ _ _ _ _ _ _ _ _ _ _ _ _ _ _ _ _ _ _ _ _ _ _ _ _ _ _ _ _ _ _ _ _ _ _ _ _ _ _ _ _ _ _ _ _ _ _ _ _ _ _ _ _ _ _ _ _ _ _ _ _ _ _ _ _ _ _ _ _ _ _ _ _ _ _ _ _ _ _ _ _ _ _ _ _ _ _ _ _ _ _ _ _ _ _ _ _ _ _ _ _ _ _ _ _ _ _ _ _ _ _ _ _ d1 d3 d4 rfl hq0 hq1 (by omega) (by omega)


end Go.Proofs.Ytpaociigfbibbaa
