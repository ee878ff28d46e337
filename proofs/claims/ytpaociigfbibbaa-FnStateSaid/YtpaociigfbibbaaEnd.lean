/-
  The contract of packetBatchEnd: its model, and its first half (the recovery, or the growth of the window).
-/
import Derived.Test.YtpaociigfbibbaaLost
import Derived.Deep.LoopGhost
namespace Go.Proofs.Ytpaociigfbibbaa
open Go.RowKit

/-- Congestion avoidance: as long as more than a window pends, a window's bytes are taken off and the window grows by a datagram. -/
def grow (size : Int) : Nat → Int → Int → Int × Int
  | 0, w, p => (w, p)
  | n + 1, w, p => if w < p then grow size n (w + size) (p - w) else (w, p)

theorem grow_stop (size : Int) (n : Nat) {w p : Int} (h : ¬ w < p) : grow size n w p = (w, p) := by cases n <;> simp [grow, h]
theorem grow_step (size : Int) {n : Nat} {w p : Int} (h : w < p) (hn : 0 < n) : grow size n w p = grow size (n - 1) (w + size) (p - w) := by
  cases n with
  | zero => omega
  | succ m => simp [grow, h]

def lossB (c : Ctl) : Bool := !decide (c.last = 0) && !decide (c.last < c.recov)
def enterC (c : Ctl) (now : Int) : Ctl := { c with recov := now, thresh := c.window / 2, window := max (c.window / 2) (2 * c.size), one := true, pend := 0, inr := true }
def firstStep (c : Ctl) : Int := if c.window < c.thresh then min (c.thresh - c.window) c.pend else 0
def grownC (c : Ctl) : Ctl :=
  { c with inr := false, window := (grow c.size c.pend.toNat (c.window + firstStep c) (c.pend - firstStep c)).1, pend := (grow c.size c.pend.toNat (c.window + firstStep c) (c.pend - firstStep c)).2 }
def endA (c : Ctl) (now : Int) : Ctl := if lossB c then enterC c now else if 0 < c.pend then grownC c else c


set_option maxHeartbeats 400000 in
theorem establish_set (gr : Nat) (r : Rtt) (w : World) (hR : Blk w gr 58 (rttCells r)) :
    Calls Try.prog 40 #[.pointer (some ⟨gr, 0, none⟩)] w fun e w' => e = .returned (.tuple #[]) ∧ w.setCell ⟨gr, 0, none⟩ (.int .i64 r.latest) = w' := by
  have r1 : w.cell? ⟨gr, 1, none⟩ = some (.int .i64 r.latest) := hR.cell 1
  have r0 : w.cell? ⟨gr, 0, none⟩ = some (.int .i64 r.least) := hR.cell 0
  have f0 := hR.frozen 0
  go_enter Try.func40, Try.ntmps40
  go_wp2
  go_end0
  exact ⟨rfl, rfl⟩
theorem cells_least (r : Rtt) : (rttCells r).setIfInBounds 0 (.int .i64 r.latest) = rttCells { r with least := r.latest } := by simp [rttCells]

def sOf (k : Int) (c : Ctl) : Int := if k = 0 then c.s0 else if k = 1 then c.s1 else c.s2
def eOf (k : Int) (c : Ctl) : Int := if k = 0 then c.e0 else if k = 1 then c.e1 else c.e2
def durOf (r : Rtt) (limit : Int) : Int := (r.smooth + max (4 * r.dev) 1000000 + limit) * 3
def persB (k : Int) (d : Ctl) (r : Rtt) (limit : Int) : Bool := !decide (d.last = 0) && decide (durOf r limit ≤ eOf k d - sOf k d)
def endB (k : Int) (d : Ctl) (r : Rtt) (limit : Int) : Ctl := if persB k d r limit then { d with window := 2 * d.size, recov := 0, last := 0 } else { d with last := 0 }
def endR (k : Int) (d : Ctl) (r : Rtt) (limit : Int) : Rtt := if persB k d r limit then { r with least := r.latest } else r
theorem endA_keep (c : Ctl) (now : Int) : (endA c now).size = c.size ∧ (endA c now).last = c.last ∧ (∀ k, sOf k (endA c now) = sOf k c) ∧ (∀ k, eOf k (endA c now) = eOf k c) := by
  unfold endA
  split
  · exact ⟨rfl, rfl, fun _ => rfl, fun _ => rfl⟩
  · split
    · exact ⟨rfl, rfl, fun _ => rfl, fun _ => rfl⟩
    · exact ⟨rfl, rfl, fun _ => rfl, fun _ => rfl⟩
theorem cells_last (d : Ctl) : ((ctlCells d).setIfInBounds 10 (.int .u64 0)).setIfInBounds 11 (.int .i64 0) = ctlCells { d with last := 0 } := by simp [ctlCells, wl_zero, ex_zero]
theorem cells_pers (d : Ctl) : (((((ctlCells d).setIfInBounds 1 (.int .i64 (2 * d.size))).setIfInBounds 4 (.int .u64 0)).setIfInBounds 5 (.int .i64 0)).setIfInBounds 10 (.int .u64 0)).setIfInBounds 11 (.int .i64 0) = ctlCells { d with window := 2 * d.size, recov := 0, last := 0 } := by simp [ctlCells, wl_zero, ex_zero]
theorem cells_pers4 (d : Ctl) : ((((ctlCells d).setIfInBounds 1 (.int .i64 (2 * d.size))).setIfInBounds 4 (.int .u64 0)).setIfInBounds 5 (.int .i64 0)) = ctlCells { d with window := 2 * d.size, recov := 0 } := by simp [ctlCells, wl_zero, ex_zero]

set_option maxRecDepth 100000 in
set_option maxHeartbeats 8000000 in
theorem batchEnd_any (g gr : Nat) (c : Ctl) (r : Rtt) (now limit k : Int) (w : World) (hB : Blk w g 63 (ctlCells c)) (hR : Blk w gr 58 (rttCells r))
    (hz0 : 1 ≤ c.size) (hz1 : c.size ≤ 65535) (hw0 : c.size ≤ c.window) (hw1 : c.window ≤ 1152921504606846976) (ht0 : 0 ≤ c.thresh) (ht1 : c.thresh ≤ 9223372036854775807) (hp0 : 0 ≤ c.pend) (hp1 : c.pend ≤ 1152921504606846976)
    (hk0 : 0 ≤ k) (hk1 : k ≤ 2) (hs0 : 0 ≤ sOf k c) (hs1 : sOf k c ≤ 1000000000000000000000000000) (he0 : -2305843009213693952 ≤ eOf k c - sOf k c) (he1 : eOf k c - sOf k c ≤ 2305843009213693952)
    (hr0 : 0 ≤ r.smooth) (hr1 : r.smooth ≤ 1099511627776) (hv0 : 0 ≤ r.dev) (hv1 : r.dev ≤ 1099511627776) (hm0 : 0 ≤ limit) (hm1 : limit ≤ 1099511627776) :
    Calls Try.prog 30 #[.pointer (some ⟨g, 0, none⟩), .agg #[.int .u64 (wl now), .int .i64 (ex now)], .int .u8 k, .pointer (some ⟨gr, 0, none⟩), .int .i64 limit] w fun e w' =>
      e = .returned (.tuple #[]) ∧ Blk w' g 63 (ctlCells (endB k (endA c now) r limit)) ∧ Blk w' gr 58 (rttCells (endR k (endA c now) r limit)) ∧ Only g gr w w' := by
  have l1 := hB.lt
  have l3 := hR.lt
  have ne2 := hR.apart hB (by decide)
  go_enter Try.func30, Try.ntmps30
  go_upto_region 1 with (fail)
  refine wp_forget (fun w' => Blk w' g 63 (ctlCells c) ∧ Blk w' gr 58 (rttCells r) ∧ Blk w' w.heap.size 56 #[.int .u64 (wl now), .int .i64 (ex now)] ∧ Only g gr w w')
        ⟨hB.alloc _, hR.alloc _, Blk.new _ _ _, (Only.refl g gr w).alloc _⟩ ?_
  intro W hS
  obtain ⟨b1, b2, b3, b4⟩ := hS
  go_cut [31] (fun s w' => s = .bool (lossB c) ∧ Blk w' g 63 (ctlCells c) ∧ Blk w' gr 58 (rttCells r) ∧ Blk w' w.heap.size 56 #[.int .u64 (wl now), .int .i64 (ex now)] ∧ Only g gr w w')
  case first =>
    have q1 := Later.cell (show W.cell? ⟨g, 4, none⟩ = some (.int .u64 (wl c.recov)) from b1.cell 4)
    have q2 := Later.cell (show W.cell? ⟨g, 5, none⟩ = some (.int .i64 (ex c.recov)) from b1.cell 5)
    have q3 := Later.cell (show W.cell? ⟨g, 10, none⟩ = some (.int .u64 (wl c.last)) from b1.cell 10)
    have q4 := Later.cell (show W.cell? ⟨g, 11, none⟩ = some (.int .i64 (ex c.last)) from b1.cell 11)
    by_cases h : c.last = 0
    · have hz : ∀ s : Later W, Calls Try.prog 37 #[.agg #[.int .u64 (wl c.last), .int .i64 (ex c.last)]] s.val fun e w' => e = .returned (.bool true) ∧ ∃ s' : Later W, w' = s'.val := fun s => by
        have := later_of (s := s) (isZero_any c.last s.val)
        rwa [decide_eq_true h] at this
      have hv : lossB c = false := by simp [lossB, h]
      have Hz := Lib.hid hz
      have Hv := Lib.hid hv
      clear h hz hv
      refine wp_region_later (by kernel_rfl) (by kernel_rfl) ?_
      repeat (go_big_quiet_step ((go_at_call 37; exact Hz.out _)))
      refine wpQuiet_nil ?_
      intro _ hw'
      obtain ⟨s, hw''⟩ := hw'
      subst hw''
      go_wp2_with fail
      go_meet
      exact ⟨by rw [Hv.out], b1.later s.below, b2.later s.below, b3.later s.below, b4.below s.below⟩
    · have hz : ∀ s : Later W, Calls Try.prog 37 #[.agg #[.int .u64 (wl c.last), .int .i64 (ex c.last)]] s.val fun e w' => e = .returned (.bool false) ∧ ∃ s' : Later W, w' = s'.val := fun s => by
        have := later_of (s := s) (isZero_any c.last s.val)
        rwa [decide_eq_false h] at this
      have hv : lossB c = !decide (c.last < c.recov) := by simp [lossB, h]
      have Hz := Lib.hid hz
      have Hv := Lib.hid hv
      clear h hz hv
      refine wp_region_later (by kernel_rfl) (by kernel_rfl) ?_
      repeat (go_big_quiet_step ((first | (go_at_call 37; exact Hz.out _) | (go_at_call 36; exact later_of (before_any _ _ _)))))
      refine wpQuiet_nil ?_
      intro _ hw'
      obtain ⟨s, hw''⟩ := hw'
      subst hw''
      go_wp2_with fail
      go_meet
      exact ⟨by rw [Hv.out], b1.later s.below, b2.later s.below, b3.later s.below, b4.below s.below⟩
  case rest =>
    obtain ⟨hs, d1, d2, d3, d4⟩ := hcut
    obtain ⟨b, hb⟩ : ∃ b, lossB c = b := ⟨_, rfl⟩
    rw [hb] at hs
    subst hs
    have Hb := Lib.hid hb
    clear hb b1 b2 b3 b4 hB hR
    have nb : w.heap.size ≠ g := by omega
    have nr : w.heap.size ≠ gr := by omega
    go_upto_if 31 with (fail)
    go_cut [] (fun w' => Blk w' g 63 (ctlCells (endA c now)) ∧ Blk w' gr 58 (rttCells r) ∧ Only g gr w w')
    case first =>
      rcases b with _ | _
      · have c1 : wc.cell? ⟨g, 1, none⟩ = some (.int .i64 c.window) := d1.cell 1
        have c3 : wc.cell? ⟨g, 3, none⟩ = some (.int .i64 c.thresh) := d1.cell 3
        have c6 : wc.cell? ⟨g, 6, none⟩ = some (.int .i64 c.pend) := d1.cell 6
        have c8 : wc.cell? ⟨g, 8, none⟩ = some (.bool c.inr) := d1.cell 8
        have f8 := d1.frozen 8
        by_cases hp : 0 < c.pend
        · have He := Lib.hid (show endA c now = grownC c by simp [endA, Hb.out, hp])
          go_upto_region 10 with (fail)
          refine wp_forget (fun w' => Blk w' g 63 (ctlCells { c with inr := false }) ∧ Blk w' gr 58 (rttCells r) ∧ Only g gr w w')
            ⟨blk_eq (d1.put 8 _) (by simp [ctlCells]), d2.far ne2 _, d4.put 8 _⟩ ?_
          intro W1 hS
          obtain ⟨e1, e2, e3⟩ := hS
          clear c1 c3 c6 c8 f8 d1 d2 d3 d4
          have c1 : W1.cell? ⟨g, 1, none⟩ = some (.int .i64 c.window) := e1.cell 1
          have c3 : W1.cell? ⟨g, 3, none⟩ = some (.int .i64 c.thresh) := e1.cell 3
          have c6 : W1.cell? ⟨g, 6, none⟩ = some (.int .i64 c.pend) := e1.cell 6
          have f1 := e1.frozen 1
          have f6 := e1.frozen 6
          go_quiet (fail)
          go_upto_if 79 with (fail)
          go_cut [] (fun w' => Blk w' g 63 (ctlCells { c with inr := false, window := c.window + firstStep c, pend := c.pend - firstStep c }) ∧ Blk w' gr 58 (rttCells r) ∧ Only g gr w w')
          case first =>
            by_cases hwt : c.window < c.thresh
            · have hw1 : IntKind.i64.wrap (c.thresh - c.window) = c.thresh - c.window := IntWalk.i64_in _ (by omega)
              by_cases hmin : c.pend < c.thresh - c.window
              · have Hfs := Lib.hid (show firstStep c = c.pend by simp only [firstStep, if_pos hwt]; omega)
                go_wp2_with fail
                go_quiet (fail)
                go_wp2_with fail
                go_meet
                exact ⟨blk_eq ((e1.drewN _).put 1 _ |>.put 6 _) (by rw [Hfs.out]; simp [ctlCells]), ((e2.drewN _).far ne2 _).far ne2 _, ((e3.drewN _).put 1 _).put 6 _⟩
              · have Hfs := Lib.hid (show firstStep c = c.thresh - c.window by simp only [firstStep, if_pos hwt]; omega)
                go_wp2_with fail
                go_quiet (fail)
                go_wp2_with fail
                go_meet
                exact ⟨blk_eq ((e1.drewN _).put 1 _ |>.put 6 _) (by rw [Hfs.out]; simp [ctlCells]), ((e2.drewN _).far ne2 _).far ne2 _, ((e3.drewN _).put 1 _).put 6 _⟩
            · have hfs : firstStep c = 0 := by simp [firstStep, hwt]
              have Hfs := Lib.hid hfs
              clear hfs
              go_wp2_with fail
              go_meet
              exact ⟨by rw [Hfs.out, Int.add_zero, Int.sub_zero]; exact e1.drewN _, e2.drewN _, e3.drewN _⟩
          case rest =>
            obtain ⟨b1, b2, b3⟩ := hcut
            clear c1 c3 c6 f1 f6 e1 e2 e3
            have hd0 : 0 ≤ firstStep c := by unfold firstStep; split <;> omega
            have hd1 : firstStep c ≤ c.pend := by unfold firstStep; split <;> omega
            obtain ⟨d, hd⟩ : ∃ d, firstStep c = d := ⟨_, rfl⟩
            rw [hd] at b1 hd0 hd1
            have Hd := Lib.hid hd
            clear hd
            go_wp2_with fail
            go_loopg [] c.pend.toNat (fun n wr => ∃ wi pe : Int, Blk wr g 63 (ctlCells { c with inr := false, window := wi, pend := pe }) ∧ Blk wr gr 58 (rttCells r) ∧ Only g gr w wr ∧
              Hid (grow c.size n wi pe = grow c.size c.pend.toNat (c.window + d) (c.pend - d)) ∧ c.size ≤ wi ∧ 0 ≤ pe ∧ pe ≤ n ∧ wi + pe ≤ 2305843009213693952)
            case atStart => exact ⟨_, _, b1, b2, b3, rfl, by omega, by omega, by omega, by omega⟩
            case round =>
              obtain ⟨wi, pe, e1, e2, e3, hg, k1, k2, k3, k4⟩ := hrel
              have c0 : wr.cell? ⟨g, 0, none⟩ = some (.int .i64 c.size) := e1.cell 0
              have c1 : wr.cell? ⟨g, 1, none⟩ = some (.int .i64 wi) := e1.cell 1
              have c6 : wr.cell? ⟨g, 6, none⟩ = some (.int .i64 pe) := e1.cell 6
              have f1 := e1.frozen 1
              have f6 := e1.frozen 6
              have hw1 : IntKind.i64.wrap (pe - wi) = pe - wi := IntWalk.i64_in _ (by omega)
              have hw2 : IntKind.i64.wrap (wi + c.size) = wi + c.size := IntWalk.i64_in _ (by omega)
              by_cases hlt : wi < pe
              · go_wp2_with fail
                go_quiet (fail)
                go_wp2_with fail
                go_region
                go_wp2_with fail
                go_region
                go_wp2_with fail
                have hg2 := Lib.hid ((grow_step c.size hlt (by omega)).symm.trans hg.out)
                clear c0 c1 c6 f1 f6 hw1 hw2
                go_roundg (gk - 1)
                case measure => omega
                case rel => exact ⟨_, _, blk_eq ((((e1.drewN _).put 6 _).put 1 _).drew) (by simp [ctlCells]), (((e2.drewN _).far ne2 _).far ne2 _).drew, (((e3.drewN _).put 6 _).put 1 _).drew, hg2, by omega, by omega, by omega, by omega⟩
              · go_wp2_with fail
                go_quiet (fail)
                go_wp2_with fail
                go_meet
                have hn : ¬ wi < pe := by omega
                have hgr : grow c.size c.pend.toNat (c.window + d) (c.pend - d) = (wi, pe) := hg.out.symm.trans (grow_stop _ _ hn)
                have hfin : endA c now = { c with inr := false, window := wi, pend := pe } := by rw [He.out]; unfold grownC; rw [Hd.out, hgr]
                exact ⟨by rw [hfin]; exact e1.drewN _, e2.drewN _, e3.drewN _⟩
        · have He := Lib.hid (show endA c now = c by simp [endA, Hb.out, hp])
          go_wp2_with fail
          go_meet
          exact ⟨by rw [He.out]; exact d1, d2, d4⟩
      · have c1 : wc.cell? ⟨g, 1, none⟩ = some (.int .i64 c.window) := d1.cell 1
        have c0 : wc.cell? ⟨g, 0, none⟩ = some (.int .i64 c.size) := d1.cell 0
        have c3 : wc.cell? ⟨g, 3, none⟩ = some (.int .i64 c.thresh) := d1.cell 3
        have c4 : wc.cell? ⟨g, 4, none⟩ = some (.int .u64 (wl c.recov)) := d1.cell 4
        have c5 : wc.cell? ⟨g, 5, none⟩ = some (.int .i64 (ex c.recov)) := d1.cell 5
        have n0 : wc.cell? ⟨w.heap.size, 0, none⟩ = some (.int .u64 (wl now)) := d3.cell 0
        have n1 : wc.cell? ⟨w.heap.size, 1, none⟩ = some (.int .i64 (ex now)) := d3.cell 1
        have f1 := d1.frozen 1
        have f3 := d1.frozen 3
        have f4 := d1.frozen 4
        have f5 := d1.frozen 5
        have f6 := d1.frozen 6
        have f7 := d1.frozen 7
        have f8 := d1.frozen 8
        go_upto_region 4 with (fail)
        refine wp_forget (fun w' => Blk w' g 63 (ctlCells { c with recov := now, thresh := c.window / 2 }) ∧ Blk w' gr 58 (rttCells r) ∧ Only g gr w w')
          ⟨blk_eq (((d1.put 4 _).put 5 _).put 3 _) (by simp [ctlCells]), ((d2.far ne2 _).far ne2 _).far ne2 _, ((d4.put 4 _).put 5 _).put 3 _⟩ ?_
        intro W1 hS
        obtain ⟨e1, e2, e3⟩ := hS
        clear c0 c1 c3 c4 c5 n0 n1 f1 f3 f4 f5 f6 f7 f8
        have c3 : W1.cell? ⟨g, 3, none⟩ = some (.int .i64 (c.window / 2)) := e1.cell 3
        have c1 : W1.cell? ⟨g, 1, none⟩ = some (.int .i64 c.window) := e1.cell 1
        have c6 : W1.cell? ⟨g, 6, none⟩ = some (.int .i64 c.pend) := e1.cell 6
        have c7 : W1.cell? ⟨g, 7, none⟩ = some (.bool c.one) := e1.cell 7
        have c8 : W1.cell? ⟨g, 8, none⟩ = some (.bool c.inr) := e1.cell 8
        have f1 := e1.frozen 1
        have f6 := e1.frozen 6
        have f7 := e1.frozen 7
        have f8 := e1.frozen 8
        have HM : ∀ W, Blk W g 63 (ctlCells { c with recov := now, thresh := c.window / 2 }) → Calls Try.prog 33 #[.pointer (some ⟨g, 0, none⟩)] W fun e w' => e = .returned (.int .i64 (2 * c.size)) ∧ W = w' :=
          fun W h => minWindow_any g { c with recov := now, thresh := c.window / 2 } W h (by show 0 ≤ c.size; omega) hz1
        have Hm := Lib.hid HM
        clear HM
        have HE : ∀ m, max (c.window / 2) (2 * c.size) = m → ctlCells (endA c now) = ((((ctlCells { c with recov := now, thresh := c.window / 2 }).setIfInBounds 1 (.int .i64 m)).setIfInBounds 7 (.bool true)).setIfInBounds 6 (.int .i64 0)).setIfInBounds 8 (.bool true) := by
          intro m hm
          simp [endA, Hb.out, enterC, ctlCells, hm]
        have He := Lib.hid HE
        clear HE
        by_cases hmax : c.window / 2 < 2 * c.size
        all_goals
          go_region_with (go_at_call 33; refine (Hm.out _ ?_).mono ?_; (· exact e1.drew); rintro e w1 ⟨rfl, rfl⟩)
          all_goals
            go_wp2_with fail
            go_meet
            exact ⟨blk_eq ((((e1.put 1 _).put 7 _).put 6 _).put 8 _).drew (He.out _ (by omega)).symm, ((((e2.far ne2 _).far ne2 _).far ne2 _).far ne2 _).drew, ((((e3.put 1 _).put 7 _).put 6 _).put 8 _).drew⟩
    case rest =>
      obtain ⟨b1, b2, b3⟩ := hcut
      clear d1 d2 d3 d4 nb nr hw0 hw1 ht0 ht1 hp0 hp1
      have hkeep := endA_keep c now
      obtain ⟨d, hd⟩ : ∃ d, endA c now = d := ⟨_, rfl⟩
      rw [hd] at b1 hkeep
      have Hd := Lib.hid hd
      obtain ⟨kz, kl, ks, ke⟩ := hkeep
      rw [← ks k] at hs0 hs1 he0 he1
      rw [← ke k] at he0 he1
      rw [← kz] at hz0 hz1
      clear hd kz kl ks ke Hb
      have c10 : wc.cell? ⟨g, 10, none⟩ = some (.int .u64 (wl d.last)) := b1.cell 10
      have c11 : wc.cell? ⟨g, 11, none⟩ = some (.int .i64 (ex d.last)) := b1.cell 11
      by_cases hl : d.last = 0
      · have hz : ∀ W, Calls Try.prog 37 #[.agg #[.int .u64 (wl d.last), .int .i64 (ex d.last)]] W fun e w' => e = .returned (.bool true) ∧ Below W.heap.size W w' := fun W => by
          have := isZero_any d.last W
          rwa [decide_eq_true hl] at this
        have Hz := Lib.hid hz
        have Hp := Lib.hid (show endB k d r limit = { d with last := 0 } ∧ endR k d r limit = r by simp [endB, endR, persB, hl])
        clear hz hl
        go_upto_if 146 with (go_at_call 37; refine (Hz.out _).mono ?_; rintro e w1 ⟨rfl, hb⟩)
        have e1 := b1.later hb
        have e2 := b2.later hb
        have e3 := b3.below hb
        have f10 := e1.frozen 10
        have f11 := e1.frozen 11
        have c10 : w1.cell? ⟨g, 10, none⟩ = some (.int .u64 (wl d.last)) := e1.cell 10
        have c11 : w1.cell? ⟨g, 11, none⟩ = some (.int .i64 (ex d.last)) := e1.cell 11
        clear hb b1 b2 b3
        go_wp2_with fail
        go_end0
        exact ⟨rfl, by rw [Hd.out, Hp.out.1, ← cells_last]; exact (e1.put 10 _).put 11 _, by rw [Hd.out, Hp.out.2]; exact (e2.far ne2 _).far ne2 _, (e3.put 10 _).put 11 _⟩
      · have hz : ∀ W, Calls Try.prog 37 #[.agg #[.int .u64 (wl d.last), .int .i64 (ex d.last)]] W fun e w' => e = .returned (.bool false) ∧ Below W.heap.size W w' := fun W => by
          have := isZero_any d.last W
          rwa [decide_eq_false hl] at this
        have Hz := Lib.hid hz
        have Hp := Lib.hid (show persB k d r limit = decide (durOf r limit ≤ eOf k d - sOf k d) by simp [persB, hl])
        clear hz hl
        go_upto_if 146 with (go_at_call 37; refine (Hz.out _).mono ?_; rintro e w1 ⟨rfl, hb⟩)
        have e1 := b1.later hb
        have e2 := b2.later hb
        have e3 := b3.below hb
        clear hb b1 b2 b3 c10 c11
        have r2 : w1.cell? ⟨gr, 2, none⟩ = some (.int .i64 r.smooth) := e2.cell 2
        have r3 : w1.cell? ⟨gr, 3, none⟩ = some (.int .i64 r.dev) := e2.cell 3
        obtain ⟨m, hm⟩ : ∃ m, max (4 * r.dev) 1000000 = m := ⟨_, rfl⟩
        have hmb0 : 0 ≤ m := by omega
        have hmb1 : m ≤ 4398046511104 := by omega
        have Hm := Lib.hid (show durOf r limit = (r.smooth + m + limit) * 3 by simp only [durOf, hm])
        have Hmm := Lib.hid hm
        clear hm
        go_upto_region 18 with (fail)
        go_cut [11] (fun s w' => s = .int .i64 ((r.smooth + m + limit) * 3) ∧ Blk w' g 63 (ctlCells d) ∧ Blk w' gr 58 (rttCells r) ∧ Only g gr w w')
        case first =>
          have w4 : IntKind.i64.wrap (4 * r.dev) = 4 * r.dev := IntWalk.i64_in _ (by omega)
          have w5 : IntKind.i64.wrap (r.smooth + m) = r.smooth + m := IntWalk.i64_in _ (by omega)
          have w6 : IntKind.i64.wrap (r.smooth + m + limit) = r.smooth + m + limit := IntWalk.i64_in _ (by omega)
          have w7 : IntKind.i64.wrap ((r.smooth + m + limit) * 3) = (r.smooth + m + limit) * 3 := IntWalk.i64_in _ (by omega)
          by_cases hx : 4 * r.dev < 1000000
          · obtain rfl : m = 1000000 := by have := Hmm.out; omega
            go_quiet (fail)
            go_wp2_with fail
            go_meet
            exact ⟨rfl, e1.drewN _, e2.drewN _, e3.drewN _⟩
          · obtain rfl : m = 4 * r.dev := by have := Hmm.out; omega
            go_quiet (fail)
            go_wp2_with fail
            go_meet
            exact ⟨rfl, e1.drewN _, e2.drewN _, e3.drewN _⟩
        case rest =>
          obtain ⟨hs, b1, b2, b3⟩ := hcut
          subst hs
          clear e1 e2 e3 r2 r3
          have hcs : wc.cell? ⟨g, 12 + k.toNat * 5, none⟩ = some (.int .u64 (wl (sOf k d))) ∧ wc.cell? ⟨g, 12 + k.toNat * 5 + 1, none⟩ = some (.int .i64 (ex (sOf k d))) ∧ wc.cell? ⟨g, 12 + k.toNat * 5 + 2, none⟩ = some (.int .u64 (wl (eOf k d))) ∧ wc.cell? ⟨g, 12 + k.toNat * 5 + 2 + 1, none⟩ = some (.int .i64 (ex (eOf k d))) := by
            obtain rfl | rfl | rfl : k = 0 ∨ k = 1 ∨ k = 2 := by omega
            · exact ⟨b1.cell 12, b1.cell 13, b1.cell 14, b1.cell 15⟩
            · exact ⟨b1.cell 17, b1.cell 18, b1.cell 19, b1.cell 20⟩
            · exact ⟨b1.cell 22, b1.cell 23, b1.cell 24, b1.cell 25⟩
          obtain ⟨cs0, cs1, cs2, cs3⟩ := hcs
          have lw := b1.lt
          have HS : ∀ W, Calls Try.prog 39 #[.agg #[.int .u64 (wl (eOf k d)), .int .i64 (ex (eOf k d))], .agg #[.int .u64 (wl (sOf k d)), .int .i64 (ex (sOf k d))]] W fun e w' => e = .returned (.int .i64 (eOf k d - sOf k d)) ∧ Below W.heap.size W w' :=
            fun W => sub_any (eOf k d) (sOf k d) W hs0 hs1 he0 he1
          have Hs := Lib.hid HS
          clear HS
          go_upto_if 179 with (go_at_call 39; refine (Hs.out _).mono ?_; rintro e w3 ⟨rfl, hb⟩)
          have e1 := (((b1.alloc (.cells #[.int .u64 (wl (sOf k d)), .int .i64 (ex (sOf k d))] 56)).alloc (.cells #[.int .u64 (wl (eOf k d)), .int .i64 (ex (eOf k d))] 56))).later hb
          have e2 := (((b2.alloc (.cells #[.int .u64 (wl (sOf k d)), .int .i64 (ex (sOf k d))] 56)).alloc (.cells #[.int .u64 (wl (eOf k d)), .int .i64 (ex (eOf k d))] 56))).later hb
          have e3 := (((b3.alloc (.cells #[.int .u64 (wl (sOf k d)), .int .i64 (ex (sOf k d))] 56)).alloc (.cells #[.int .u64 (wl (eOf k d)), .int .i64 (ex (eOf k d))] 56))).below hb
          clear b1 b2 b3 cs0 cs1 cs2 cs3 hb
          have f1 := e1.frozen 1
          have f4 := e1.frozen 4
          have f5 := e1.frozen 5
          have f10 := e1.frozen 10
          have f11 := e1.frozen 11
          have c1 : w3.cell? ⟨g, 1, none⟩ = some (.int .i64 d.window) := e1.cell 1
          have c4 : w3.cell? ⟨g, 4, none⟩ = some (.int .u64 (wl d.recov)) := e1.cell 4
          have c5 : w3.cell? ⟨g, 5, none⟩ = some (.int .i64 (ex d.recov)) := e1.cell 5
          have c10 : w3.cell? ⟨g, 10, none⟩ = some (.int .u64 (wl d.last)) := e1.cell 10
          have c11 : w3.cell? ⟨g, 11, none⟩ = some (.int .i64 (ex d.last)) := e1.cell 11
          by_cases hq : (r.smooth + m + limit) * 3 ≤ eOf k d - sOf k d
          · have Hq := Lib.hid (show endB k d r limit = { d with window := 2 * d.size, recov := 0, last := 0 } ∧ endR k d r limit = { r with least := r.latest } by simp [endB, endR, Hp.out, Hm.out, hq])
            go_wp2_with (first | (go_at_call 33; refine (minWindow_any g d _ e1 (by omega) hz1).mono ?_; rintro e w4 ⟨rfl, rfl⟩) | (go_at_call 40; refine (establish_set gr r _ (((e2.far ne2 _).far ne2 _).far ne2 _)).mono ?_; rintro e w4 ⟨rfl, rfl⟩))
            go_end0
            exact ⟨rfl, by rw [Hd.out, Hq.out.1, ← cells_pers]; exact (((((e1.put 1 _).put 4 _).put 5 _).far (p := ⟨gr, 0, none⟩) ne2.symm _).put 10 _).put 11 _, by rw [Hd.out, Hq.out.2, ← cells_least]; exact (((((e2.far ne2 _).far ne2 _).far ne2 _).put 0 _).far ne2 _).far ne2 _, (((((e3.put 1 _).put 4 _).put 5 _).put2 0 _).put 10 _).put 11 _⟩
          · have Hq := Lib.hid (show endB k d r limit = { d with last := 0 } ∧ endR k d r limit = r by simp [endB, endR, Hp.out, Hm.out, hq])
            go_wp2_with fail
            go_end0
            exact ⟨rfl, by rw [Hd.out, Hq.out.1, ← cells_last]; exact (e1.put 10 _).put 11 _, by rw [Hd.out, Hq.out.2]; exact (e2.far ne2 _).far ne2 _, (e3.put 10 _).put 11 _⟩

end Go.Proofs.Ytpaociigfbibbaa

