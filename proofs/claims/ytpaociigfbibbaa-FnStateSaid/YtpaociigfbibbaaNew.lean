/-
  The contracts of newReno, of the estimates' init and of the reading of the state.
-/
import Derived.Test.YtpaociigfbibbaaStep
import Derived.Deep.DrawnRows
namespace Go.Proofs.Ytpaociigfbibbaa
open Go.RowKit
attribute [local go_sem ↓] Go.wp_at_zero Go.wp_at_succ

def zeroR : Rtt := { least := 0, latest := 0, smooth := 0, dev := 0, first := 0 }

set_option maxHeartbeats 400000 in
theorem init_any (gr : Nat) (w : World) (hR : Blk w gr 58 (rttCells zeroR)) :
    Calls Try.prog 20 #[.pointer (some ⟨gr, 0, none⟩)] w fun e w' =>
      e = .returned (.tuple #[]) ∧ Blk w' gr 58 (rttCells newR) ∧ (∀ g, Only g gr w w') := by
  have r0 : w.cell? ⟨gr, 0, none⟩ = some (.int .i64 0) := hR.cell 0
  have r2 : w.cell? ⟨gr, 2, none⟩ = some (.int .i64 0) := hR.cell 2
  have r3 : w.cell? ⟨gr, 3, none⟩ = some (.int .i64 0) := hR.cell 3
  have f0 := hR.frozen 0
  have f2 := hR.frozen 2
  have f3 := hR.frozen 3
  go_enter Try.func20, Try.ntmps20
  go_wp2
  go_end0
  exact ⟨rfl, ((hR.put 0 _).put 2 _).put 3 _, fun g => (((Only.refl g gr w).put2 0 _).put2 2 _).put2 3 _⟩

def zeroC (size : Int) : Ctl :=
  { size := size, window := 0, flight := 0, thresh := 0, recov := 0, pend := 0, one := false, inr := false, under := false, last := 0,
    s0 := 0, e0 := 0, n0 := 0, s1 := 0, e1 := 0, n1 := 0, s2 := 0, e2 := 0, n2 := 0 }

set_option maxHeartbeats 1000000 in
theorem newReno_any (size : Int) (w : World) (h0 : 1200 ≤ size) (h1 : size ≤ 65527) :
    Calls Try.prog 19 #[.int .i64 size] w fun e w' =>
      e = .returned (.pointer (some ⟨w.heap.size, 0, none⟩)) ∧ w' = w.alloc (.cells (ctlCells (newC size)) 63) := by
  have HM : Calls Try.prog 33 #[.pointer (some ⟨w.heap.size, 0, none⟩)] (w.alloc (.cells #[.int .i64 size, .int .i64 0, .int .i64 0, .int .i64 0, .int .u64 0, .int .i64 0, .int .i64 0, .bool false, .bool false, .bool false, .int .u64 0, .int .i64 0, .int .u64 0, .int .i64 0, .int .u64 0, .int .i64 0, .int .i64 0, .int .u64 0, .int .i64 0, .int .u64 0, .int .i64 0, .int .i64 0, .int .u64 0, .int .i64 0, .int .u64 0, .int .i64 0, .int .i64 0] 63)) fun e w' => e = .returned (.int .i64 (2 * size)) ∧ w.alloc (.cells #[.int .i64 size, .int .i64 0, .int .i64 0, .int .i64 0, .int .u64 0, .int .i64 0, .int .i64 0, .bool false, .bool false, .bool false, .int .u64 0, .int .i64 0, .int .u64 0, .int .i64 0, .int .u64 0, .int .i64 0, .int .i64 0, .int .u64 0, .int .i64 0, .int .u64 0, .int .i64 0, .int .i64 0, .int .u64 0, .int .i64 0, .int .u64 0, .int .i64 0, .int .i64 0] 63) = w' :=
    minWindow_any _ (zeroC size) _ (Blk.new w 63 (ctlCells (zeroC size))) (by show 0 ≤ size; omega) (by show size ≤ 65535; omega)
  have Hm := Lib.hid HM
  clear HM
  have HE : ∀ m, min (10 * size) (max 14720 (2 * size)) = m → ctlCells (newC size) = ((((((ctlCells (zeroC size)).setIfInBounds 1 (.int .i64 m)).setIfInBounds 3 (.int .i64 9223372036854775807)).setIfInBounds 16 (.int .i64 (-1))).setIfInBounds 21 (.int .i64 (-1))).setIfInBounds 26 (.int .i64 (-1))) := by
    intro m hm
    simp [newC, zeroC, ctlCells, hm]
  have He := Lib.hid HE
  clear HE
  by_cases hx : (14720 : Int) < 2 * size
  · go_enter Try.func19, Try.ntmps19
    go_wp2_with (go_at_call 33; refine Hm.out.mono ?_; rintro e w' ⟨rfl, rfl⟩)
    refine wp_loop_rounds 4 ?_
    rw [rounds_succ]
    go_wp2_with fail
    rw [rounds_succ]
    go_wp2_with fail
    rw [rounds_succ]
    go_wp2_with fail
    rw [rounds_succ]
    go_wp2_with fail
    go_ret
    exact ⟨rfl, by rw [He.out (2 * size) (by omega)]; rfl⟩
  · by_cases hy : (14720 : Int) < 10 * size
    · go_enter Try.func19, Try.ntmps19
      go_wp2_with (go_at_call 33; refine Hm.out.mono ?_; rintro e w' ⟨rfl, rfl⟩)
      refine wp_loop_rounds 4 ?_
      rw [rounds_succ]
      go_wp2_with fail
      rw [rounds_succ]
      go_wp2_with fail
      rw [rounds_succ]
      go_wp2_with fail
      rw [rounds_succ]
      go_wp2_with fail
      go_ret
      exact ⟨rfl, by rw [He.out 14720 (by omega)]; rfl⟩
    · go_enter Try.func19, Try.ntmps19
      go_wp2_with (go_at_call 33; refine Hm.out.mono ?_; rintro e w' ⟨rfl, rfl⟩)
      refine wp_loop_rounds 4 ?_
      rw [rounds_succ]
      go_wp2_with fail
      rw [rounds_succ]
      go_wp2_with fail
      rw [rounds_succ]
      go_wp2_with fail
      rw [rounds_succ]
      go_wp2_with fail
      go_ret
      exact ⟨rfl, by rw [He.out (10 * size) (by omega)]; rfl⟩

def outCells (c : Ctl) (r : Rtt) : Array Value :=
  #[.int .i64 c.window, .int .i64 c.flight, .int .i64 c.thresh, .int .i64 c.pend, .bool (c.one || decide (c.flight + c.size ≤ c.window)), .bool c.one, .bool c.inr, .string (stateBytes c),
    .int .i64 r.least, .int .i64 r.smooth, .int .i64 r.dev]

theorem below_drewN {B : Nat} {a w : World} (h : Below B a w) (n : Nat) : Below B a (w.drewN n) := ⟨h.os, h.tape, h.output, h.size, h.block⟩
theorem cell_drew {W : World} {p : Addr} {v : Value} (h : W.cell? p = some v) : W.drew.cell? p = some v := h
theorem cell_drewN {W : World} {p : Addr} {v : Value} (h : W.cell? p = some v) (n : Nat) : (W.drewN n).cell? p = some v := h
theorem cell_far {W : World} {p q : Addr} {v : Value} (h : W.cell? p = some v) (hne : p.block ≠ q.block) (u : Value) : (W.setCell q u).cell? p = some v :=
  (World.cell?_setCell_other W q p u (fun e => hne (by rw [e]))).trans h

set_option maxHeartbeats 400000 in
theorem string_any (s : ByteArray) (w : World) : Calls Try.prog 24 #[.string s] w fun e w' => e = .returned (.string s) ∧ w = w' := by
  go_enter Try.func24, Try.ntmps24
  go_wp2
  go_ret
  exact ⟨rfl, rfl⟩

set_option maxHeartbeats 16000000 in
theorem look_any (b5 b6 g gr : Nat) (c : Ctl) (r : Rtt) (w : World) (hB : Blk w g 63 (ctlCells c)) (hR : Blk w gr 58 (rttCells r)) (h5 : Blk w b5 50 #[.pointer (some ⟨g, 0, none⟩)]) (h6 : Blk w b6 52 #[.pointer (some ⟨gr, 0, none⟩)])
    (h0 : 0 ≤ c.size) (h1 : c.size ≤ 65535) (hf0 : -4611686018427387904 ≤ c.flight) (hf1 : c.flight ≤ 4611686018427387904) :
    Calls Try.prog 21 #[.pointer (some ⟨b5, 0, none⟩), .pointer (some ⟨b6, 0, none⟩)] w fun e w' => e = .returned (.agg (outCells c r)) ∧ Below w.heap.size w w' := by
  have l5 := h5.lt
  have l6 := h6.lt
  have lg := hB.lt
  have lr := hR.lt
  go_enter Try.func21, Try.ntmps21
  go_upto_region 1 with (fail)
  refine wp_forget (fun w' => Blk w' g 63 (ctlCells c) ∧ Blk w' gr 58 (rttCells r) ∧ Blk w' b5 50 #[.pointer (some ⟨g, 0, none⟩)] ∧ Blk w' b6 52 #[.pointer (some ⟨gr, 0, none⟩)] ∧
      Blk w' w.heap.size 47 #[.int .i64 0, .int .i64 0, .int .i64 0, .int .i64 0, .bool false, .bool false, .bool false, .string ⟨#[]⟩, .int .i64 0, .int .i64 0, .int .i64 0] ∧ Below w.heap.size w w')
    ⟨hB.alloc _, hR.alloc _, h5.alloc _, h6.alloc _, Blk.new _ _ _, (Below.refl _ _).alloc (Nat.le_refl _) _⟩ ?_
  intro W hS
  obtain ⟨e1, e2, e3, e4, e5, e6⟩ := hS
  clear hB hR h5 h6
  have HC := fun W (h : Blk W g 63 (ctlCells c)) => canSend_any g c W h h0 h1 hf0 hf1
  have HT := fun W (h : Blk W g 63 (ctlCells c)) => state_any g c W h
  have Hc := Lib.hid HC
  have Ht := Lib.hid HT
  clear HC HT
  have ne5 : b5 ≠ w.heap.size := by omega
  have ne6 : b6 ≠ w.heap.size := by omega
  have neg : g ≠ w.heap.size := by omega
  have ner : gr ≠ w.heap.size := by omega
  have k1 : W.cell? ⟨b5, 0, none⟩ = some (.pointer (some ⟨g, 0, none⟩)) := e3.cell 0
  have k2 : W.cell? ⟨b6, 0, none⟩ = some (.pointer (some ⟨gr, 0, none⟩)) := e4.cell 0
  have c1 : W.cell? ⟨g, 1, none⟩ = some (.int .i64 c.window) := e1.cell 1
  have c2 : W.cell? ⟨g, 2, none⟩ = some (.int .i64 c.flight) := e1.cell 2
  have c3 : W.cell? ⟨g, 3, none⟩ = some (.int .i64 c.thresh) := e1.cell 3
  have c6 : W.cell? ⟨g, 6, none⟩ = some (.int .i64 c.pend) := e1.cell 6
  have c7 : W.cell? ⟨g, 7, none⟩ = some (.bool c.one) := e1.cell 7
  have c8 : W.cell? ⟨g, 8, none⟩ = some (.bool c.inr) := e1.cell 8
  have q0 : W.cell? ⟨gr, 0, none⟩ = some (.int .i64 r.least) := e2.cell 0
  have q2 : W.cell? ⟨gr, 2, none⟩ = some (.int .i64 r.smooth) := e2.cell 2
  have q3 : W.cell? ⟨gr, 3, none⟩ = some (.int .i64 r.dev) := e2.cell 3
  have z0 : W.cell? ⟨w.heap.size, 0, none⟩ = some (.int .i64 0) := e5.cell 0
  have z1 : W.cell? ⟨w.heap.size, 1, none⟩ = some (.int .i64 0) := e5.cell 1
  have z2 : W.cell? ⟨w.heap.size, 2, none⟩ = some (.int .i64 0) := e5.cell 2
  have z3 : W.cell? ⟨w.heap.size, 3, none⟩ = some (.int .i64 0) := e5.cell 3
  have z4 : W.cell? ⟨w.heap.size, 4, none⟩ = some (.bool false) := e5.cell 4
  have z5 : W.cell? ⟨w.heap.size, 5, none⟩ = some (.bool false) := e5.cell 5
  have z6 : W.cell? ⟨w.heap.size, 6, none⟩ = some (.bool false) := e5.cell 6
  have z7 : W.cell? ⟨w.heap.size, 7, none⟩ = some (.string ⟨#[]⟩) := e5.cell 7
  have z8 : W.cell? ⟨w.heap.size, 8, none⟩ = some (.int .i64 0) := e5.cell 8
  have z9 : W.cell? ⟨w.heap.size, 9, none⟩ = some (.int .i64 0) := e5.cell 9
  have z10 : W.cell? ⟨w.heap.size, 10, none⟩ = some (.int .i64 0) := e5.cell 10
  have zf := fun i => e5.frozen i
  have HK : ∀ w' : World, Below w.heap.size W w' → w'.cell? ⟨b5, 0, none⟩ = some (.pointer (some ⟨g, 0, none⟩)) ∧ w'.cell? ⟨b6, 0, none⟩ = some (.pointer (some ⟨gr, 0, none⟩)) ∧ w'.cell? ⟨g, 1, none⟩ = some (.int .i64 c.window) ∧ w'.cell? ⟨g, 2, none⟩ = some (.int .i64 c.flight) ∧ w'.cell? ⟨g, 3, none⟩ = some (.int .i64 c.thresh) ∧ w'.cell? ⟨g, 6, none⟩ = some (.int .i64 c.pend) ∧ w'.cell? ⟨g, 7, none⟩ = some (.bool c.one) ∧ w'.cell? ⟨g, 8, none⟩ = some (.bool c.inr) ∧ w'.cell? ⟨gr, 0, none⟩ = some (.int .i64 r.least) ∧ w'.cell? ⟨gr, 2, none⟩ = some (.int .i64 r.smooth) ∧ w'.cell? ⟨gr, 3, none⟩ = some (.int .i64 r.dev) := fun w' hw => by
    refine ⟨?_, ?_, ?_, ?_, ?_, ?_, ?_, ?_, ?_, ?_, ?_⟩
    · exact (hw.cell (p := ⟨b5, 0, none⟩) l5).trans k1
    · exact (hw.cell (p := ⟨b6, 0, none⟩) l6).trans k2
    · exact (hw.cell (p := ⟨g, 1, none⟩) lg).trans c1
    · exact (hw.cell (p := ⟨g, 2, none⟩) lg).trans c2
    · exact (hw.cell (p := ⟨g, 3, none⟩) lg).trans c3
    · exact (hw.cell (p := ⟨g, 6, none⟩) lg).trans c6
    · exact (hw.cell (p := ⟨g, 7, none⟩) lg).trans c7
    · exact (hw.cell (p := ⟨g, 8, none⟩) lg).trans c8
    · exact (hw.cell (p := ⟨gr, 0, none⟩) lr).trans q0
    · exact (hw.cell (p := ⟨gr, 2, none⟩) lr).trans q2
    · exact (hw.cell (p := ⟨gr, 3, none⟩) lr).trans q3
  have Hk := Lib.hid HK
  have E1 := Lib.hid e1
  clear HK k1 k2 c1 c2 c3 c6 c7 c8 q0 q2 q3 e2 e3 e4 e5 e1 ne5 ne6 neg ner
  go_region_held3 (fun w' => w'.cell? ⟨b5, 0, none⟩ = some (.pointer (some ⟨g, 0, none⟩)) ∧ w'.cell? ⟨b6, 0, none⟩ = some (.pointer (some ⟨gr, 0, none⟩)) ∧ w'.cell? ⟨g, 1, none⟩ = some (.int .i64 c.window) ∧ w'.cell? ⟨g, 2, none⟩ = some (.int .i64 c.flight) ∧ w'.cell? ⟨g, 3, none⟩ = some (.int .i64 c.thresh) ∧ w'.cell? ⟨g, 6, none⟩ = some (.int .i64 c.pend) ∧ w'.cell? ⟨g, 7, none⟩ = some (.bool c.one) ∧ w'.cell? ⟨g, 8, none⟩ = some (.bool c.inr) ∧ w'.cell? ⟨gr, 0, none⟩ = some (.int .i64 r.least) ∧ w'.cell? ⟨gr, 2, none⟩ = some (.int .i64 r.smooth) ∧ w'.cell? ⟨gr, 3, none⟩ = some (.int .i64 r.dev))
    ((refine Hk.out _ ?_; (repeat (with_reducible (first | exact Below.refl _ _ | refine Below.drew ?_ | refine below_drewN ?_ _ | refine Below.setCell ?_ (by exact Nat.le_refl _) _)))))
    (first | (go_at_call 22; refine (Hc.out _ ?_).mono ?_; (· refine E1.out.below (B := w.heap.size) ?_ lg; (repeat (with_reducible (first | exact Below.refl _ _ | refine Below.drew ?_ | refine below_drewN ?_ _ | refine Below.setCell ?_ (by exact Nat.le_refl _) _)))); rintro e w1 ⟨rfl, n, rfl⟩) | (go_at_call 23; refine (Ht.out _ ?_).mono ?_; (· refine E1.out.below (B := w.heap.size) ?_ lg; (repeat (with_reducible (first | exact Below.refl _ _ | refine Below.drew ?_ | refine below_drewN ?_ _ | refine Below.setCell ?_ (by exact Nat.le_refl _) _)))); rintro e w1 ⟨rfl, n, rfl⟩) | (go_at_call 24; refine (string_any _ _).mono ?_; rintro e w1 ⟨rfl, rfl⟩))
  clear Hk Hc Ht
  go_wp2_with fail
  refine bodyPost_ret (v := .agg (outCells c r)) (by simp [results, Try.results21, go_sem, outCells, z0, z1, z2, z3, z4, z5, z6, z7, z8, z9, z10]) rfl ⟨rfl, ?_⟩
  refine e6.trans ?_
  repeat (with_reducible (first | exact Below.refl _ _ | refine Below.drew ?_ | refine below_drewN ?_ _ | refine Below.setCell ?_ (by exact Nat.le_refl _) _))
end Go.Proofs.Ytpaociigfbibbaa
