/-
  The contract of packetLost: one walk for each of the three spaces.
-/
import Derived.Test.YtpaociigfbibbaaAck
import Derived.Deep.DeepCutAuto
import Derived.Test.YtpaociigfbibbaaLater
namespace Go.Proofs.Ytpaociigfbibbaa
open Go.RowKit

/-- Whether a lost packet can take part in a persistent congestion. -/
def validB (first time : Int) (el : Bool) : Bool := el && (!decide (first = 0) && !decide (time < first))
def lossC (c : Ctl) (size time : Int) (inf : Bool) : Ctl := if inf then { c with flight := c.flight - size, last := if c.last < time then time else c.last } else c

def mark0 (c : Ctl) (b : Bool) (num time : Int) : Ctl := if b then { c with s0 := if num = c.n0 then c.s0 else time, e0 := time, n0 := num + 1 } else if num = c.n0 then { c with n0 := num + 1 } else c
theorem mark0_same {c : Ctl} {num time : Int} (h : ¬ num = c.n0) : ctlCells (mark0 c false num time) = ctlCells c := by simp [mark0, h]
theorem mark0_next {c : Ctl} {num time : Int} (h : num = c.n0) : ctlCells (mark0 c false num time) = (ctlCells c).setIfInBounds 16 (.int .i64 (num + 1)) := by simp [mark0, h, ctlCells]
theorem mark0_on {c : Ctl} {num time : Int} (h : num = c.n0) : ctlCells (mark0 c true num time) = (((ctlCells c).setIfInBounds 14 (.int .u64 (wl time))).setIfInBounds 15 (.int .i64 (ex time))).setIfInBounds 16 (.int .i64 (num + 1)) := by simp [mark0, h, ctlCells]
theorem mark0_new {c : Ctl} {num time : Int} (h : ¬ num = c.n0) : ctlCells (mark0 c true num time) = (((((ctlCells c).setIfInBounds 12 (.int .u64 (wl time))).setIfInBounds 13 (.int .i64 (ex time))).setIfInBounds 14 (.int .u64 (wl time))).setIfInBounds 15 (.int .i64 (ex time))).setIfInBounds 16 (.int .i64 (num + 1)) := by simp [mark0, h, ctlCells]
theorem mark0_flight (c : Ctl) (b : Bool) (num time : Int) : (mark0 c b num time).flight = c.flight ∧ (mark0 c b num time).last = c.last := by
  unfold mark0
  split
  · exact ⟨rfl, rfl⟩
  · split <;> exact ⟨rfl, rfl⟩

set_option maxRecDepth 100000 in
set_option maxHeartbeats 1000000 in
theorem lost0 (g gp gr : Nat) (c : Ctl) (r : Rtt) (num size time now : Int) (el inf : Bool) (w : World) (hB : Blk w g 63 (ctlCells c)) (hP : Blk w gp 73 (packetCells num size time el inf)) (hR : Blk w gr 58 (rttCells r))
    (hf0 : -4611686018427387904 ≤ c.flight) (hf1 : c.flight ≤ 4611686018427387904) (hs0 : 0 ≤ size) (hs1 : size ≤ 65535) (hn0 : 0 ≤ num) (hn1 : num < 4611686018427387904) :
    Calls Try.prog 28 #[.pointer (some ⟨g, 0, none⟩), .agg #[.int .u64 (wl now), .int .i64 (ex now)], .int .u8 0, .pointer (some ⟨gp, 0, none⟩), .pointer (some ⟨gr, 0, none⟩)] w fun e w' =>
      e = .returned (.tuple #[]) ∧ Blk w' g 63 (ctlCells (lossC (mark0 c (validB r.first time el) num time) size time inf)) ∧ Blk w' gr 58 (rttCells r) ∧ Only g gr w w' := by
  have l1 := hB.lt
  have l2 := hP.lt
  have l3 := hR.lt
  have ne := hP.apart hB (by decide)
  have ne2 := hR.apart hB (by decide)
  go_enter Try.func28, Try.ntmps28
  go_upto_region 1 with (fail)
  refine wp_forget (fun w' => Blk w' g 63 (ctlCells c) ∧ Blk w' gp 73 (packetCells num size time el inf) ∧ Blk w' gr 58 (rttCells r) ∧ Only g gr w w')
        ⟨hB.alloc _, hP.alloc _, hR.alloc _, (Only.refl g gr w).alloc _⟩ ?_
  intro W hS
  obtain ⟨b1, b2, b3, b4⟩ := hS
  go_cut [10] (fun s w' => s = .bool (validB r.first time el) ∧ Blk w' g 63 (ctlCells c) ∧ Blk w' gp 73 (packetCells num size time el inf) ∧ Blk w' gr 58 (rttCells r) ∧ Only g gr w w')
  case first =>
    have p2 : W.cell? ⟨gp, 2, none⟩ = some (.int .u64 (wl time)) := b2.cell 2
    have p3 : W.cell? ⟨gp, 3, none⟩ = some (.int .i64 (ex time)) := b2.cell 3
    have p4 : W.cell? ⟨gp, 4, none⟩ = some (.bool el) := b2.cell 4
    have r4 : W.cell? ⟨gr, 4, none⟩ = some (.int .u64 (wl r.first)) := b3.cell 4
    have r5 : W.cell? ⟨gr, 5, none⟩ = some (.int .i64 (ex r.first)) := b3.cell 5
    rcases el with _ | _
    · go_quiet (fail)
      go_wp2_with fail
      go_meet
      exact ⟨rfl, b1.drewN _, b2.drewN _, b3.drewN _, b4.drewN _⟩
    · have q2 := Later.cell p2
      have q3 := Later.cell p3
      have q4 := Later.cell p4
      have q5 := Later.cell r4
      have q6 := Later.cell r5
      by_cases h : r.first = 0
      · have hz : ∀ s : Later W, Calls Try.prog 37 #[.agg #[.int .u64 (wl r.first), .int .i64 (ex r.first)]] s.val fun e w' => e = .returned (.bool true) ∧ ∃ s' : Later W, w' = s'.val := fun s => by
          have := later_of (s := s) (isZero_any r.first s.val)
          rwa [decide_eq_true h] at this
        have hv : validB r.first time true = false := by simp [validB, h]
        have Hz := Lib.hid hz
        have Hv := Lib.hid hv
        clear h hz hv
        refine wp_region_later (by kernel_rfl) (by kernel_rfl) ?_
        repeat (go_big_quiet_step ((go_at_call 37; exact Hz.out _)))
        refine wpQuiet_nil ?_
        intro _ hw'
        obtain ⟨s, hw''⟩ := hw'
        subst hw''
        go_wp2_with fail
        go_meet
        exact ⟨by rw [Hv.out], b1.later s.below, b2.later s.below, b3.later s.below, b4.below s.below⟩
      · have hz : ∀ s : Later W, Calls Try.prog 37 #[.agg #[.int .u64 (wl r.first), .int .i64 (ex r.first)]] s.val fun e w' => e = .returned (.bool false) ∧ ∃ s' : Later W, w' = s'.val := fun s => by
          have := later_of (s := s) (isZero_any r.first s.val)
          rwa [decide_eq_false h] at this
        have hv : validB r.first time true = !decide (time < r.first) := by simp [validB, h]
        have Hz := Lib.hid hz
        have Hv := Lib.hid hv
        clear h hz hv
        refine wp_region_later (by kernel_rfl) (by kernel_rfl) ?_
        repeat (go_big_quiet_step ((first | (go_at_call 37; exact Hz.out _) | (go_at_call 36; exact later_of (before_any _ _ _)))))
        refine wpQuiet_nil ?_
        intro _ hw'
        obtain ⟨s, hw''⟩ := hw'
        subst hw''
        go_wp2_with fail
        go_meet
        exact ⟨by rw [Hv.out], b1.later s.below, b2.later s.below, b3.later s.below, b4.below s.below⟩
  case rest =>
    obtain ⟨hs, d1, d2, d3, d4⟩ := hcut
    obtain ⟨b, hb⟩ : ∃ b, validB r.first time el = b := ⟨_, rfl⟩
    rw [hb] at hs
    subst hs
    have Hb := Lib.hid hb
    clear hb
    clear b1 b2 b3 b4 hB hP hR
    go_upto_if 35 with (fail)
    go_cut [] (fun w' => Blk w' g 63 (ctlCells (mark0 c b num time)) ∧ Blk w' gp 73 (packetCells num size time el inf) ∧ Blk w' gr 58 (rttCells r) ∧ Only g gr w w')
    case first =>
      have c12 : wc.cell? ⟨g, 12, none⟩ = some (.int .u64 (wl c.s0)) := d1.cell 12
      have c13 : wc.cell? ⟨g, 13, none⟩ = some (.int .i64 (ex c.s0)) := d1.cell 13
      have c14 : wc.cell? ⟨g, 14, none⟩ = some (.int .u64 (wl c.e0)) := d1.cell 14
      have c15 : wc.cell? ⟨g, 15, none⟩ = some (.int .i64 (ex c.e0)) := d1.cell 15
      have c16 : wc.cell? ⟨g, 16, none⟩ = some (.int .i64 c.n0) := d1.cell 16
      have f12 := d1.frozen 12
      have f13 := d1.frozen 13
      have f14 := d1.frozen 14
      have f15 := d1.frozen 15
      have f16 := d1.frozen 16
      have p0 : wc.cell? ⟨gp, 0, none⟩ = some (.int .i64 num) := d2.cell 0
      have p2 : wc.cell? ⟨gp, 2, none⟩ = some (.int .u64 (wl time)) := d2.cell 2
      have p3 : wc.cell? ⟨gp, 3, none⟩ = some (.int .i64 (ex time)) := d2.cell 3
      have hw : IntKind.i64.wrap (num + 1) = num + 1 := IntWalk.i64_in _ (by omega)
      rcases b with _ | _
      · by_cases h : num = c.n0
        · have hq : (num == c.n0) = true := by simp [h]
          have He := Lib.hid (mark0_next (time := time) h)
          clear h
          go_wp2
          go_quiet (fail)
          go_wp2
          go_region
          go_wp2
          go_meet
          exact ⟨by rw [He.out]; exact (d1.drewN _).put 16 _, (d2.drewN _).far ne _, (d3.drewN _).far ne2 _, (d4.drewN _).put 16 _⟩
        · have hq : (num == c.n0) = false := by simp [h]
          have He := Lib.hid (mark0_same (time := time) h)
          clear h
          go_wp2
          go_quiet (fail)
          go_wp2
          go_meet
          exact ⟨by rw [He.out]; exact d1.drewN _, d2.drewN _, d3.drewN _, d4.drewN _⟩
      · by_cases h : num = c.n0
        · have hq : (num != c.n0) = false := by simp [h]
          have He := Lib.hid (mark0_on (time := time) h)
          clear h
          go_wp2
          go_quiet (fail)
          go_wp2
          go_region
          go_wp2
          go_region
          go_wp2
          go_meet
          exact ⟨by rw [He.out]; exact ((((d1.drewN _).put 14 _).put 15 _).put 16 _).drew, ((((d2.drewN _).far ne _).far ne _).far ne _).drew, ((((d3.drewN _).far ne2 _).far ne2 _).far ne2 _).drew, ((((d4.drewN _).put 14 _).put 15 _).put 16 _).drew⟩
        · have hq : (num != c.n0) = true := by simp [h]
          have He := Lib.hid (mark0_new (time := time) h)
          clear h
          go_wp2
          go_quiet (fail)
          go_wp2
          go_region
          go_wp2
          go_region
          go_wp2
          go_region
          go_wp2
          go_meet
          exact ⟨by rw [He.out]; exact ((((((d1.drewN _).put 12 _).put 13 _).put 14 _).put 15 _).put 16 _).drew.drew, ((((((d2.drewN _).far ne _).far ne _).far ne _).far ne _).far ne _).drew.drew, ((((((d3.drewN _).far ne2 _).far ne2 _).far ne2 _).far ne2 _).far ne2 _).drew.drew, ((((((d4.drewN _).put 12 _).put 13 _).put 14 _).put 15 _).put 16 _).drew.drew⟩
    case rest =>
      obtain ⟨b1, b2, b3, b4⟩ := hcut
      clear d1 d2 d3 d4
      have m1 := (mark0_flight c b num time).1
      have hf0' : -4611686018427387904 ≤ (mark0 c b num time).flight := by rw [m1]; exact hf0
      have hf1' : (mark0 c b num time).flight ≤ 4611686018427387904 := by rw [m1]; exact hf1
      clear m1 hf0 hf1
      obtain ⟨d, hd⟩ : ∃ d, mark0 c b num time = d := ⟨_, rfl⟩
      rw [hd] at b1 hf0' hf1'
      have Hd := Lib.hid hd
      clear hd
      have p5 : wc.cell? ⟨gp, 5, none⟩ = some (.bool inf) := b2.cell 5
      rcases inf with _ | _
      · go_wp2
        refine bodyPost_ret (results_none rfl _ _ _) rfl ?_
        exact ⟨rfl, by rw [Hb.out, Hd.out]; exact b1, b3, b4⟩
      · have c2 : wc.cell? ⟨g, 2, none⟩ = some (.int .i64 d.flight) := b1.cell 2
        have f2 := b1.frozen 2
        have p1 : wc.cell? ⟨gp, 1, none⟩ = some (.int .i64 size) := b2.cell 1
        have hw : IntKind.i64.wrap (d.flight - size) = d.flight - size := IntWalk.i64_in _ (by omega)
        go_wp2
        go_region
        go_wp2
        refine wp_forget (fun w' => Blk w' g 63 ((ctlCells d).setIfInBounds 2 (.int .i64 (d.flight - size))) ∧ Blk w' gp 73 (packetCells num size time el true) ∧ Blk w' gr 58 (rttCells r) ∧ Only g gr w w')
          ⟨(b1.put 2 _).drew, (b2.far ne _).drew, (b3.far ne2 _).drew, (b4.put 2 _).drew⟩ ?_
        intro W2 hS
        obtain ⟨e1, e2, e3, e4⟩ := hS
        clear c2 f2 p1 p5 hw b1 b2 b3 b4
        have q1 := Later.cell (show W2.cell? ⟨g, 10, none⟩ = some (.int .u64 (wl d.last)) from e1.cell 10)
        have q2 := Later.cell (show W2.cell? ⟨g, 11, none⟩ = some (.int .i64 (ex d.last)) from e1.cell 11)
        have q3 := Later.cell (show W2.cell? ⟨gp, 2, none⟩ = some (.int .u64 (wl time)) from e2.cell 2)
        have q4 := Later.cell (show W2.cell? ⟨gp, 3, none⟩ = some (.int .i64 (ex time)) from e2.cell 3)
        refine wp_region_later (by kernel_rfl) (by kernel_rfl) ?_
        repeat (go_big_quiet_step ((go_at_call 38; exact later_of (after_any _ _ _))))
        refine wpQuiet_nil ?_
        intro _ hw'
        obtain ⟨s, hw''⟩ := hw'
        subst hw''
        have e1 := e1.later s.below
        have e2 := e2.later s.below
        have e3 := e3.later s.below
        have e4 := e4.below s.below
        have f10 := e1.frozen 10
        have f11 := e1.frozen 11
        by_cases h : d.last < time
        · have He := Lib.hid (show ctlCells (lossC d size time true) = (((ctlCells d).setIfInBounds 2 (.int .i64 (d.flight - size))).setIfInBounds 10 (.int .u64 (wl time))).setIfInBounds 11 (.int .i64 (ex time)) by simp [lossC, h, ctlCells])
          go_wp2
          go_end0
          exact ⟨rfl, by rw [Hb.out, Hd.out, He.out]; exact ((e1.put 10 _).put 11 _), ((e3.far ne2 _).far ne2 _), ((e4.put 10 _).put 11 _)⟩
        · have He := Lib.hid (show ctlCells (lossC d size time true) = (ctlCells d).setIfInBounds 2 (.int .i64 (d.flight - size)) by simp [lossC, h, ctlCells])
          go_wp2
          go_end0
          exact ⟨rfl, by rw [Hb.out, Hd.out, He.out]; exact e1, e3, e4⟩

def mark1 (c : Ctl) (b : Bool) (num time : Int) : Ctl := if b then { c with s1 := if num = c.n1 then c.s1 else time, e1 := time, n1 := num + 1 } else if num = c.n1 then { c with n1 := num + 1 } else c
theorem mark1_same {c : Ctl} {num time : Int} (h : ¬ num = c.n1) : ctlCells (mark1 c false num time) = ctlCells c := by simp [mark1, h]
theorem mark1_next {c : Ctl} {num time : Int} (h : num = c.n1) : ctlCells (mark1 c false num time) = (ctlCells c).setIfInBounds 21 (.int .i64 (num + 1)) := by simp [mark1, h, ctlCells]
theorem mark1_on {c : Ctl} {num time : Int} (h : num = c.n1) : ctlCells (mark1 c true num time) = (((ctlCells c).setIfInBounds 19 (.int .u64 (wl time))).setIfInBounds 20 (.int .i64 (ex time))).setIfInBounds 21 (.int .i64 (num + 1)) := by simp [mark1, h, ctlCells]
theorem mark1_new {c : Ctl} {num time : Int} (h : ¬ num = c.n1) : ctlCells (mark1 c true num time) = (((((ctlCells c).setIfInBounds 17 (.int .u64 (wl time))).setIfInBounds 18 (.int .i64 (ex time))).setIfInBounds 19 (.int .u64 (wl time))).setIfInBounds 20 (.int .i64 (ex time))).setIfInBounds 21 (.int .i64 (num + 1)) := by simp [mark1, h, ctlCells]
theorem mark1_flight (c : Ctl) (b : Bool) (num time : Int) : (mark1 c b num time).flight = c.flight ∧ (mark1 c b num time).last = c.last := by
  unfold mark1
  split
  · exact ⟨rfl, rfl⟩
  · split <;> exact ⟨rfl, rfl⟩

set_option maxRecDepth 100000 in
set_option maxHeartbeats 1000000 in
theorem lost1 (g gp gr : Nat) (c : Ctl) (r : Rtt) (num size time now : Int) (el inf : Bool) (w : World) (hB : Blk w g 63 (ctlCells c)) (hP : Blk w gp 73 (packetCells num size time el inf)) (hR : Blk w gr 58 (rttCells r))
    (hf0 : -4611686018427387904 ≤ c.flight) (hf1 : c.flight ≤ 4611686018427387904) (hs0 : 0 ≤ size) (hs1 : size ≤ 65535) (hn0 : 0 ≤ num) (hn1 : num < 4611686018427387904) :
    Calls Try.prog 28 #[.pointer (some ⟨g, 0, none⟩), .agg #[.int .u64 (wl now), .int .i64 (ex now)], .int .u8 1, .pointer (some ⟨gp, 0, none⟩), .pointer (some ⟨gr, 0, none⟩)] w fun e w' =>
      e = .returned (.tuple #[]) ∧ Blk w' g 63 (ctlCells (lossC (mark1 c (validB r.first time el) num time) size time inf)) ∧ Blk w' gr 58 (rttCells r) ∧ Only g gr w w' := by
  have l1 := hB.lt
  have l2 := hP.lt
  have l3 := hR.lt
  have ne := hP.apart hB (by decide)
  have ne2 := hR.apart hB (by decide)
  go_enter Try.func28, Try.ntmps28
  go_upto_region 1 with (fail)
  refine wp_forget (fun w' => Blk w' g 63 (ctlCells c) ∧ Blk w' gp 73 (packetCells num size time el inf) ∧ Blk w' gr 58 (rttCells r) ∧ Only g gr w w')
        ⟨hB.alloc _, hP.alloc _, hR.alloc _, (Only.refl g gr w).alloc _⟩ ?_
  intro W hS
  obtain ⟨b1, b2, b3, b4⟩ := hS
  go_cut [10] (fun s w' => s = .bool (validB r.first time el) ∧ Blk w' g 63 (ctlCells c) ∧ Blk w' gp 73 (packetCells num size time el inf) ∧ Blk w' gr 58 (rttCells r) ∧ Only g gr w w')
  case first =>
    have p2 : W.cell? ⟨gp, 2, none⟩ = some (.int .u64 (wl time)) := b2.cell 2
    have p3 : W.cell? ⟨gp, 3, none⟩ = some (.int .i64 (ex time)) := b2.cell 3
    have p4 : W.cell? ⟨gp, 4, none⟩ = some (.bool el) := b2.cell 4
    have r4 : W.cell? ⟨gr, 4, none⟩ = some (.int .u64 (wl r.first)) := b3.cell 4
    have r5 : W.cell? ⟨gr, 5, none⟩ = some (.int .i64 (ex r.first)) := b3.cell 5
    rcases el with _ | _
    · go_quiet (fail)
      go_wp2_with fail
      go_meet
      exact ⟨rfl, b1.drewN _, b2.drewN _, b3.drewN _, b4.drewN _⟩
    · have q2 := Later.cell p2
      have q3 := Later.cell p3
      have q4 := Later.cell p4
      have q5 := Later.cell r4
      have q6 := Later.cell r5
      by_cases h : r.first = 0
      · have hz : ∀ s : Later W, Calls Try.prog 37 #[.agg #[.int .u64 (wl r.first), .int .i64 (ex r.first)]] s.val fun e w' => e = .returned (.bool true) ∧ ∃ s' : Later W, w' = s'.val := fun s => by
          have := later_of (s := s) (isZero_any r.first s.val)
          rwa [decide_eq_true h] at this
        have hv : validB r.first time true = false := by simp [validB, h]
        have Hz := Lib.hid hz
        have Hv := Lib.hid hv
        clear h hz hv
        refine wp_region_later (by kernel_rfl) (by kernel_rfl) ?_
        repeat (go_big_quiet_step ((go_at_call 37; exact Hz.out _)))
        refine wpQuiet_nil ?_
        intro _ hw'
        obtain ⟨s, hw''⟩ := hw'
        subst hw''
        go_wp2_with fail
        go_meet
        exact ⟨by rw [Hv.out], b1.later s.below, b2.later s.below, b3.later s.below, b4.below s.below⟩
      · have hz : ∀ s : Later W, Calls Try.prog 37 #[.agg #[.int .u64 (wl r.first), .int .i64 (ex r.first)]] s.val fun e w' => e = .returned (.bool false) ∧ ∃ s' : Later W, w' = s'.val := fun s => by
          have := later_of (s := s) (isZero_any r.first s.val)
          rwa [decide_eq_false h] at this
        have hv : validB r.first time true = !decide (time < r.first) := by simp [validB, h]
        have Hz := Lib.hid hz
        have Hv := Lib.hid hv
        clear h hz hv
        refine wp_region_later (by kernel_rfl) (by kernel_rfl) ?_
        repeat (go_big_quiet_step ((first | (go_at_call 37; exact Hz.out _) | (go_at_call 36; exact later_of (before_any _ _ _)))))
        refine wpQuiet_nil ?_
        intro _ hw'
        obtain ⟨s, hw''⟩ := hw'
        subst hw''
        go_wp2_with fail
        go_meet
        exact ⟨by rw [Hv.out], b1.later s.below, b2.later s.below, b3.later s.below, b4.below s.below⟩
  case rest =>
    obtain ⟨hs, d1, d2, d3, d4⟩ := hcut
    obtain ⟨b, hb⟩ : ∃ b, validB r.first time el = b := ⟨_, rfl⟩
    rw [hb] at hs
    subst hs
    have Hb := Lib.hid hb
    clear hb
    clear b1 b2 b3 b4 hB hP hR
    go_upto_if 35 with (fail)
    go_cut [] (fun w' => Blk w' g 63 (ctlCells (mark1 c b num time)) ∧ Blk w' gp 73 (packetCells num size time el inf) ∧ Blk w' gr 58 (rttCells r) ∧ Only g gr w w')
    case first =>
      have c12 : wc.cell? ⟨g, 17, none⟩ = some (.int .u64 (wl c.s1)) := d1.cell 17
      have c13 : wc.cell? ⟨g, 18, none⟩ = some (.int .i64 (ex c.s1)) := d1.cell 18
      have c14 : wc.cell? ⟨g, 19, none⟩ = some (.int .u64 (wl c.e1)) := d1.cell 19
      have c15 : wc.cell? ⟨g, 20, none⟩ = some (.int .i64 (ex c.e1)) := d1.cell 20
      have c16 : wc.cell? ⟨g, 21, none⟩ = some (.int .i64 c.n1) := d1.cell 21
      have f12 := d1.frozen 17
      have f13 := d1.frozen 18
      have f14 := d1.frozen 19
      have f15 := d1.frozen 20
      have f16 := d1.frozen 21
      have p0 : wc.cell? ⟨gp, 0, none⟩ = some (.int .i64 num) := d2.cell 0
      have p2 : wc.cell? ⟨gp, 2, none⟩ = some (.int .u64 (wl time)) := d2.cell 2
      have p3 : wc.cell? ⟨gp, 3, none⟩ = some (.int .i64 (ex time)) := d2.cell 3
      have hw : IntKind.i64.wrap (num + 1) = num + 1 := IntWalk.i64_in _ (by omega)
      rcases b with _ | _
      · by_cases h : num = c.n1
        · have hq : (num == c.n1) = true := by simp [h]
          have He := Lib.hid (mark1_next (time := time) h)
          clear h
          go_wp2
          go_quiet (fail)
          go_wp2
          go_region
          go_wp2
          go_meet
          exact ⟨by rw [He.out]; exact (d1.drewN _).put 21 _, (d2.drewN _).far ne _, (d3.drewN _).far ne2 _, (d4.drewN _).put 21 _⟩
        · have hq : (num == c.n1) = false := by simp [h]
          have He := Lib.hid (mark1_same (time := time) h)
          clear h
          go_wp2
          go_quiet (fail)
          go_wp2
          go_meet
          exact ⟨by rw [He.out]; exact d1.drewN _, d2.drewN _, d3.drewN _, d4.drewN _⟩
      · by_cases h : num = c.n1
        · have hq : (num != c.n1) = false := by simp [h]
          have He := Lib.hid (mark1_on (time := time) h)
          clear h
          go_wp2
          go_quiet (fail)
          go_wp2
          go_region
          go_wp2
          go_region
          go_wp2
          go_meet
          exact ⟨by rw [He.out]; exact ((((d1.drewN _).put 19 _).put 20 _).put 21 _).drew, ((((d2.drewN _).far ne _).far ne _).far ne _).drew, ((((d3.drewN _).far ne2 _).far ne2 _).far ne2 _).drew, ((((d4.drewN _).put 19 _).put 20 _).put 21 _).drew⟩
        · have hq : (num != c.n1) = true := by simp [h]
          have He := Lib.hid (mark1_new (time := time) h)
          clear h
          go_wp2
          go_quiet (fail)
          go_wp2
          go_region
          go_wp2
          go_region
          go_wp2
          go_region
          go_wp2
          go_meet
          exact ⟨by rw [He.out]; exact ((((((d1.drewN _).put 17 _).put 18 _).put 19 _).put 20 _).put 21 _).drew.drew, ((((((d2.drewN _).far ne _).far ne _).far ne _).far ne _).far ne _).drew.drew, ((((((d3.drewN _).far ne2 _).far ne2 _).far ne2 _).far ne2 _).far ne2 _).drew.drew, ((((((d4.drewN _).put 17 _).put 18 _).put 19 _).put 20 _).put 21 _).drew.drew⟩
    case rest =>
      obtain ⟨b1, b2, b3, b4⟩ := hcut
      clear d1 d2 d3 d4
      have m1 := (mark1_flight c b num time).1
      have hf0' : -4611686018427387904 ≤ (mark1 c b num time).flight := by rw [m1]; exact hf0
      have hf1' : (mark1 c b num time).flight ≤ 4611686018427387904 := by rw [m1]; exact hf1
      clear m1 hf0 hf1
      obtain ⟨d, hd⟩ : ∃ d, mark1 c b num time = d := ⟨_, rfl⟩
      rw [hd] at b1 hf0' hf1'
      have Hd := Lib.hid hd
      clear hd
      have p5 : wc.cell? ⟨gp, 5, none⟩ = some (.bool inf) := b2.cell 5
      rcases inf with _ | _
      · go_wp2
        refine bodyPost_ret (results_none rfl _ _ _) rfl ?_
        exact ⟨rfl, by rw [Hb.out, Hd.out]; exact b1, b3, b4⟩
      · have c2 : wc.cell? ⟨g, 2, none⟩ = some (.int .i64 d.flight) := b1.cell 2
        have f2 := b1.frozen 2
        have p1 : wc.cell? ⟨gp, 1, none⟩ = some (.int .i64 size) := b2.cell 1
        have hw : IntKind.i64.wrap (d.flight - size) = d.flight - size := IntWalk.i64_in _ (by omega)
        go_wp2
        go_region
        go_wp2
        refine wp_forget (fun w' => Blk w' g 63 ((ctlCells d).setIfInBounds 2 (.int .i64 (d.flight - size))) ∧ Blk w' gp 73 (packetCells num size time el true) ∧ Blk w' gr 58 (rttCells r) ∧ Only g gr w w')
          ⟨(b1.put 2 _).drew, (b2.far ne _).drew, (b3.far ne2 _).drew, (b4.put 2 _).drew⟩ ?_
        intro W2 hS
        obtain ⟨e1, e2, e3, e4⟩ := hS
        clear c2 f2 p1 p5 hw b1 b2 b3 b4
        have q1 := Later.cell (show W2.cell? ⟨g, 10, none⟩ = some (.int .u64 (wl d.last)) from e1.cell 10)
        have q2 := Later.cell (show W2.cell? ⟨g, 11, none⟩ = some (.int .i64 (ex d.last)) from e1.cell 11)
        have q3 := Later.cell (show W2.cell? ⟨gp, 2, none⟩ = some (.int .u64 (wl time)) from e2.cell 2)
        have q4 := Later.cell (show W2.cell? ⟨gp, 3, none⟩ = some (.int .i64 (ex time)) from e2.cell 3)
        refine wp_region_later (by kernel_rfl) (by kernel_rfl) ?_
        repeat (go_big_quiet_step ((go_at_call 38; exact later_of (after_any _ _ _))))
        refine wpQuiet_nil ?_
        intro _ hw'
        obtain ⟨s, hw''⟩ := hw'
        subst hw''
        have e1 := e1.later s.below
        have e2 := e2.later s.below
        have e3 := e3.later s.below
        have e4 := e4.below s.below
        have f10 := e1.frozen 10
        have f11 := e1.frozen 11
        by_cases h : d.last < time
        · have He := Lib.hid (show ctlCells (lossC d size time true) = (((ctlCells d).setIfInBounds 2 (.int .i64 (d.flight - size))).setIfInBounds 10 (.int .u64 (wl time))).setIfInBounds 11 (.int .i64 (ex time)) by simp [lossC, h, ctlCells])
          go_wp2
          go_end0
          exact ⟨rfl, by rw [Hb.out, Hd.out, He.out]; exact ((e1.put 10 _).put 11 _), ((e3.far ne2 _).far ne2 _), ((e4.put 10 _).put 11 _)⟩
        · have He := Lib.hid (show ctlCells (lossC d size time true) = (ctlCells d).setIfInBounds 2 (.int .i64 (d.flight - size)) by simp [lossC, h, ctlCells])
          go_wp2
          go_end0
          exact ⟨rfl, by rw [Hb.out, Hd.out, He.out]; exact e1, e3, e4⟩

def mark2 (c : Ctl) (b : Bool) (num time : Int) : Ctl := if b then { c with s2 := if num = c.n2 then c.s2 else time, e2 := time, n2 := num + 1 } else if num = c.n2 then { c with n2 := num + 1 } else c
theorem mark2_same {c : Ctl} {num time : Int} (h : ¬ num = c.n2) : ctlCells (mark2 c false num time) = ctlCells c := by simp [mark2, h]
theorem mark2_next {c : Ctl} {num time : Int} (h : num = c.n2) : ctlCells (mark2 c false num time) = (ctlCells c).setIfInBounds 26 (.int .i64 (num + 1)) := by simp [mark2, h, ctlCells]
theorem mark2_on {c : Ctl} {num time : Int} (h : num = c.n2) : ctlCells (mark2 c true num time) = (((ctlCells c).setIfInBounds 24 (.int .u64 (wl time))).setIfInBounds 25 (.int .i64 (ex time))).setIfInBounds 26 (.int .i64 (num + 1)) := by simp [mark2, h, ctlCells]
theorem mark2_new {c : Ctl} {num time : Int} (h : ¬ num = c.n2) : ctlCells (mark2 c true num time) = (((((ctlCells c).setIfInBounds 22 (.int .u64 (wl time))).setIfInBounds 23 (.int .i64 (ex time))).setIfInBounds 24 (.int .u64 (wl time))).setIfInBounds 25 (.int .i64 (ex time))).setIfInBounds 26 (.int .i64 (num + 1)) := by simp [mark2, h, ctlCells]
theorem mark2_flight (c : Ctl) (b : Bool) (num time : Int) : (mark2 c b num time).flight = c.flight ∧ (mark2 c b num time).last = c.last := by
  unfold mark2
  split
  · exact ⟨rfl, rfl⟩
  · split <;> exact ⟨rfl, rfl⟩

set_option maxRecDepth 100000 in
set_option maxHeartbeats 1000000 in
theorem lost2 (g gp gr : Nat) (c : Ctl) (r : Rtt) (num size time now : Int) (el inf : Bool) (w : World) (hB : Blk w g 63 (ctlCells c)) (hP : Blk w gp 73 (packetCells num size time el inf)) (hR : Blk w gr 58 (rttCells r))
    (hf0 : -4611686018427387904 ≤ c.flight) (hf1 : c.flight ≤ 4611686018427387904) (hs0 : 0 ≤ size) (hs1 : size ≤ 65535) (hn0 : 0 ≤ num) (hn1 : num < 4611686018427387904) :
    Calls Try.prog 28 #[.pointer (some ⟨g, 0, none⟩), .agg #[.int .u64 (wl now), .int .i64 (ex now)], .int .u8 2, .pointer (some ⟨gp, 0, none⟩), .pointer (some ⟨gr, 0, none⟩)] w fun e w' =>
      e = .returned (.tuple #[]) ∧ Blk w' g 63 (ctlCells (lossC (mark2 c (validB r.first time el) num time) size time inf)) ∧ Blk w' gr 58 (rttCells r) ∧ Only g gr w w' := by
  have l1 := hB.lt
  have l2 := hP.lt
  have l3 := hR.lt
  have ne := hP.apart hB (by decide)
  have ne2 := hR.apart hB (by decide)
  go_enter Try.func28, Try.ntmps28
  go_upto_region 1 with (fail)
  refine wp_forget (fun w' => Blk w' g 63 (ctlCells c) ∧ Blk w' gp 73 (packetCells num size time el inf) ∧ Blk w' gr 58 (rttCells r) ∧ Only g gr w w')
        ⟨hB.alloc _, hP.alloc _, hR.alloc _, (Only.refl g gr w).alloc _⟩ ?_
  intro W hS
  obtain ⟨b1, b2, b3, b4⟩ := hS
  go_cut [10] (fun s w' => s = .bool (validB r.first time el) ∧ Blk w' g 63 (ctlCells c) ∧ Blk w' gp 73 (packetCells num size time el inf) ∧ Blk w' gr 58 (rttCells r) ∧ Only g gr w w')
  case first =>
    have p2 : W.cell? ⟨gp, 2, none⟩ = some (.int .u64 (wl time)) := b2.cell 2
    have p3 : W.cell? ⟨gp, 3, none⟩ = some (.int .i64 (ex time)) := b2.cell 3
    have p4 : W.cell? ⟨gp, 4, none⟩ = some (.bool el) := b2.cell 4
    have r4 : W.cell? ⟨gr, 4, none⟩ = some (.int .u64 (wl r.first)) := b3.cell 4
    have r5 : W.cell? ⟨gr, 5, none⟩ = some (.int .i64 (ex r.first)) := b3.cell 5
    rcases el with _ | _
    · go_quiet (fail)
      go_wp2_with fail
      go_meet
      exact ⟨rfl, b1.drewN _, b2.drewN _, b3.drewN _, b4.drewN _⟩
    · have q2 := Later.cell p2
      have q3 := Later.cell p3
      have q4 := Later.cell p4
      have q5 := Later.cell r4
      have q6 := Later.cell r5
      by_cases h : r.first = 0
      · have hz : ∀ s : Later W, Calls Try.prog 37 #[.agg #[.int .u64 (wl r.first), .int .i64 (ex r.first)]] s.val fun e w' => e = .returned (.bool true) ∧ ∃ s' : Later W, w' = s'.val := fun s => by
          have := later_of (s := s) (isZero_any r.first s.val)
          rwa [decide_eq_true h] at this
        have hv : validB r.first time true = false := by simp [validB, h]
        have Hz := Lib.hid hz
        have Hv := Lib.hid hv
        clear h hz hv
        refine wp_region_later (by kernel_rfl) (by kernel_rfl) ?_
        repeat (go_big_quiet_step ((go_at_call 37; exact Hz.out _)))
        refine wpQuiet_nil ?_
        intro _ hw'
        obtain ⟨s, hw''⟩ := hw'
        subst hw''
        go_wp2_with fail
        go_meet
        exact ⟨by rw [Hv.out], b1.later s.below, b2.later s.below, b3.later s.below, b4.below s.below⟩
      · have hz : ∀ s : Later W, Calls Try.prog 37 #[.agg #[.int .u64 (wl r.first), .int .i64 (ex r.first)]] s.val fun e w' => e = .returned (.bool false) ∧ ∃ s' : Later W, w' = s'.val := fun s => by
          have := later_of (s := s) (isZero_any r.first s.val)
          rwa [decide_eq_false h] at this
        have hv : validB r.first time true = !decide (time < r.first) := by simp [validB, h]
        have Hz := Lib.hid hz
        have Hv := Lib.hid hv
        clear h hz hv
        refine wp_region_later (by kernel_rfl) (by kernel_rfl) ?_
        repeat (go_big_quiet_step ((first | (go_at_call 37; exact Hz.out _) | (go_at_call 36; exact later_of (before_any _ _ _)))))
        refine wpQuiet_nil ?_
        intro _ hw'
        obtain ⟨s, hw''⟩ := hw'
        subst hw''
        go_wp2_with fail
        go_meet
        exact ⟨by rw [Hv.out], b1.later s.below, b2.later s.below, b3.later s.below, b4.below s.below⟩
  case rest =>
    obtain ⟨hs, d1, d2, d3, d4⟩ := hcut
    obtain ⟨b, hb⟩ : ∃ b, validB r.first time el = b := ⟨_, rfl⟩
    rw [hb] at hs
    subst hs
    have Hb := Lib.hid hb
    clear hb
    clear b1 b2 b3 b4 hB hP hR
    go_upto_if 35 with (fail)
    go_cut [] (fun w' => Blk w' g 63 (ctlCells (mark2 c b num time)) ∧ Blk w' gp 73 (packetCells num size time el inf) ∧ Blk w' gr 58 (rttCells r) ∧ Only g gr w w')
    case first =>
      have c12 : wc.cell? ⟨g, 22, none⟩ = some (.int .u64 (wl c.s2)) := d1.cell 22
      have c13 : wc.cell? ⟨g, 23, none⟩ = some (.int .i64 (ex c.s2)) := d1.cell 23
      have c14 : wc.cell? ⟨g, 24, none⟩ = some (.int .u64 (wl c.e2)) := d1.cell 24
      have c15 : wc.cell? ⟨g, 25, none⟩ = some (.int .i64 (ex c.e2)) := d1.cell 25
      have c16 : wc.cell? ⟨g, 26, none⟩ = some (.int .i64 c.n2) := d1.cell 26
      have f12 := d1.frozen 22
      have f13 := d1.frozen 23
      have f14 := d1.frozen 24
      have f15 := d1.frozen 25
      have f16 := d1.frozen 26
      have p0 : wc.cell? ⟨gp, 0, none⟩ = some (.int .i64 num) := d2.cell 0
      have p2 : wc.cell? ⟨gp, 2, none⟩ = some (.int .u64 (wl time)) := d2.cell 2
      have p3 : wc.cell? ⟨gp, 3, none⟩ = some (.int .i64 (ex time)) := d2.cell 3
      have hw : IntKind.i64.wrap (num + 1) = num + 1 := IntWalk.i64_in _ (by omega)
      rcases b with _ | _
      · by_cases h : num = c.n2
        · have hq : (num == c.n2) = true := by simp [h]
          have He := Lib.hid (mark2_next (time := time) h)
          clear h
          go_wp2
          go_quiet (fail)
          go_wp2
          go_region
          go_wp2
          go_meet
          exact ⟨by rw [He.out]; exact (d1.drewN _).put 26 _, (d2.drewN _).far ne _, (d3.drewN _).far ne2 _, (d4.drewN _).put 26 _⟩
        · have hq : (num == c.n2) = false := by simp [h]
          have He := Lib.hid (mark2_same (time := time) h)
          clear h
          go_wp2
          go_quiet (fail)
          go_wp2
          go_meet
          exact ⟨by rw [He.out]; exact d1.drewN _, d2.drewN _, d3.drewN _, d4.drewN _⟩
      · by_cases h : num = c.n2
        · have hq : (num != c.n2) = false := by simp [h]
          have He := Lib.hid (mark2_on (time := time) h)
          clear h
          go_wp2
          go_quiet (fail)
          go_wp2
          go_region
          go_wp2
          go_region
          go_wp2
          go_meet
          exact ⟨by rw [He.out]; exact ((((d1.drewN _).put 24 _).put 25 _).put 26 _).drew, ((((d2.drewN _).far ne _).far ne _).far ne _).drew, ((((d3.drewN _).far ne2 _).far ne2 _).far ne2 _).drew, ((((d4.drewN _).put 24 _).put 25 _).put 26 _).drew⟩
        · have hq : (num != c.n2) = true := by simp [h]
          have He := Lib.hid (mark2_new (time := time) h)
          clear h
          go_wp2
          go_quiet (fail)
          go_wp2
          go_region
          go_wp2
          go_region
          go_wp2
          go_region
          go_wp2
          go_meet
          exact ⟨by rw [He.out]; exact ((((((d1.drewN _).put 22 _).put 23 _).put 24 _).put 25 _).put 26 _).drew.drew, ((((((d2.drewN _).far ne _).far ne _).far ne _).far ne _).far ne _).drew.drew, ((((((d3.drewN _).far ne2 _).far ne2 _).far ne2 _).far ne2 _).far ne2 _).drew.drew, ((((((d4.drewN _).put 22 _).put 23 _).put 24 _).put 25 _).put 26 _).drew.drew⟩
    case rest =>
      obtain ⟨b1, b2, b3, b4⟩ := hcut
      clear d1 d2 d3 d4
      have m1 := (mark2_flight c b num time).1
      have hf0' : -4611686018427387904 ≤ (mark2 c b num time).flight := by rw [m1]; exact hf0
      have hf1' : (mark2 c b num time).flight ≤ 4611686018427387904 := by rw [m1]; exact hf1
      clear m1 hf0 hf1
      obtain ⟨d, hd⟩ : ∃ d, mark2 c b num time = d := ⟨_, rfl⟩
      rw [hd] at b1 hf0' hf1'
      have Hd := Lib.hid hd
      clear hd
      have p5 : wc.cell? ⟨gp, 5, none⟩ = some (.bool inf) := b2.cell 5
      rcases inf with _ | _
      · go_wp2
        refine bodyPost_ret (results_none rfl _ _ _) rfl ?_
        exact ⟨rfl, by rw [Hb.out, Hd.out]; exact b1, b3, b4⟩
      · have c2 : wc.cell? ⟨g, 2, none⟩ = some (.int .i64 d.flight) := b1.cell 2
        have f2 := b1.frozen 2
        have p1 : wc.cell? ⟨gp, 1, none⟩ = some (.int .i64 size) := b2.cell 1
        have hw : IntKind.i64.wrap (d.flight - size) = d.flight - size := IntWalk.i64_in _ (by omega)
        go_wp2
        go_region
        go_wp2
        refine wp_forget (fun w' => Blk w' g 63 ((ctlCells d).setIfInBounds 2 (.int .i64 (d.flight - size))) ∧ Blk w' gp 73 (packetCells num size time el true) ∧ Blk w' gr 58 (rttCells r) ∧ Only g gr w w')
          ⟨(b1.put 2 _).drew, (b2.far ne _).drew, (b3.far ne2 _).drew, (b4.put 2 _).drew⟩ ?_
        intro W2 hS
        obtain ⟨e1, e2, e3, e4⟩ := hS
        clear c2 f2 p1 p5 hw b1 b2 b3 b4
        have q1 := Later.cell (show W2.cell? ⟨g, 10, none⟩ = some (.int .u64 (wl d.last)) from e1.cell 10)
        have q2 := Later.cell (show W2.cell? ⟨g, 11, none⟩ = some (.int .i64 (ex d.last)) from e1.cell 11)
        have q3 := Later.cell (show W2.cell? ⟨gp, 2, none⟩ = some (.int .u64 (wl time)) from e2.cell 2)
        have q4 := Later.cell (show W2.cell? ⟨gp, 3, none⟩ = some (.int .i64 (ex time)) from e2.cell 3)
        refine wp_region_later (by kernel_rfl) (by kernel_rfl) ?_
        repeat (go_big_quiet_step ((go_at_call 38; exact later_of (after_any _ _ _))))
        refine wpQuiet_nil ?_
        intro _ hw'
        obtain ⟨s, hw''⟩ := hw'
        subst hw''
        have e1 := e1.later s.below
        have e2 := e2.later s.below
        have e3 := e3.later s.below
        have e4 := e4.below s.below
        have f10 := e1.frozen 10
        have f11 := e1.frozen 11
        by_cases h : d.last < time
        · have He := Lib.hid (show ctlCells (lossC d size time true) = (((ctlCells d).setIfInBounds 2 (.int .i64 (d.flight - size))).setIfInBounds 10 (.int .u64 (wl time))).setIfInBounds 11 (.int .i64 (ex time)) by simp [lossC, h, ctlCells])
          go_wp2
          go_end0
          exact ⟨rfl, by rw [Hb.out, Hd.out, He.out]; exact ((e1.put 10 _).put 11 _), ((e3.far ne2 _).far ne2 _), ((e4.put 10 _).put 11 _)⟩
        · have He := Lib.hid (show ctlCells (lossC d size time true) = (ctlCells d).setIfInBounds 2 (.int .i64 (d.flight - size)) by simp [lossC, h, ctlCells])
          go_wp2
          go_end0
          exact ⟨rfl, by rw [Hb.out, Hd.out, He.out]; exact e1, e3, e4⟩

def markC (k : Int) (c : Ctl) (b : Bool) (num time : Int) : Ctl := if k = 0 then mark0 c b num time else if k = 1 then mark1 c b num time else mark2 c b num time

theorem packetLost_any (k : Int) (hk0 : 0 ≤ k) (hk1 : k ≤ 2) (g gp gr : Nat) (c : Ctl) (r : Rtt) (num size time now : Int) (el inf : Bool) (w : World) (hB : Blk w g 63 (ctlCells c)) (hP : Blk w gp 73 (packetCells num size time el inf)) (hR : Blk w gr 58 (rttCells r))
    (hf0 : -4611686018427387904 ≤ c.flight) (hf1 : c.flight ≤ 4611686018427387904) (hs0 : 0 ≤ size) (hs1 : size ≤ 65535) (hn0 : 0 ≤ num) (hn1 : num < 4611686018427387904) :
    Calls Try.prog 28 #[.pointer (some ⟨g, 0, none⟩), .agg #[.int .u64 (wl now), .int .i64 (ex now)], .int .u8 k, .pointer (some ⟨gp, 0, none⟩), .pointer (some ⟨gr, 0, none⟩)] w fun e w' =>
      e = .returned (.tuple #[]) ∧ Blk w' g 63 (ctlCells (lossC (markC k c (validB r.first time el) num time) size time inf)) ∧ Blk w' gr 58 (rttCells r) ∧ Only g gr w w' := by
  obtain rfl | rfl | rfl : k = 0 ∨ k = 1 ∨ k = 2 := by omega
  · exact lost0 g gp gr c r num size time now el inf w hB hP hR hf0 hf1 hs0 hs1 hn0 hn1
  · exact lost1 g gp gr c r num size time now el inf w hB hP hR hf0 hf1 hs0 hs1 hn0 hn1
  · exact lost2 g gp gr c r num size time now el inf w hB hP hR hf0 hf1 hs0 hs1 hn0 hn1

end Go.Proofs.Ytpaociigfbibbaa

