/-
  FnFlight: its law and its walk.
-/
import Derived.Test.YtpaociigfbibbaaTold
import Derived.Test.YtpaociigfbibbaaFirst
namespace Go.Proofs.Ytpaociigfbibbaa
open Go.RowKit

theorem mark_flight (k : Int) (c : Ctl) (b : Bool) (num time : Int) : (markC k c b num time).flight = c.flight := by
  unfold markC mark0 mark1 mark2
  repeat' split
  all_goals rfl
theorem loss_flight (c : Ctl) (size time : Int) (inf : Bool) : (lossC c size time inf).flight = if inf then c.flight - size else c.flight := by
  unfold lossC; split <;> rfl
theorem ack_flight (c : Ctl) (size time : Int) (inf : Bool) : (ackC c size time inf).flight = if inf then c.flight - size else c.flight := by
  unfold ackC; repeat' split
  all_goals rfl
theorem sent_flight (c : Ctl) (size : Int) (inf : Bool) : (sentC c size inf).flight = if inf then c.flight + size else c.flight := by
  unfold sentC; split <;> rfl
theorem disc_flight (c : Ctl) (size : Int) (inf : Bool) : (discC c size inf).flight = if inf then c.flight - size else c.flight := by
  unfold discC; split <;> rfl
theorem endA_flight (c : Ctl) (now : Int) : (endA c now).flight = c.flight := by
  unfold endA enterC grownC; repeat' split
  all_goals rfl
theorem endB_flight (k : Int) (c : Ctl) (r : Rtt) (limit : Int) : (endB k c r limit).flight = c.flight := by
  unfold endB; split <;> rfl
theorem flight_step (s : St) (o : Call) : (stepM s o).c.flight =
    if o.inf then (if o.kind = 0 then s.c.flight + o.size else if o.kind = 1 then s.c.flight - o.size else if o.kind = 2 then s.c.flight - o.size else if o.kind = 3 then s.c.flight - o.size else s.c.flight) else s.c.flight := by
  unfold stepM
  split
  · rw [sent_flight]
  split
  · rw [ack_flight]
  split
  · rw [loss_flight, mark_flight]
  split
  · rw [disc_flight]
  split
  · rw [endB_flight, endA_flight]; split <;> rfl
  split
  · split <;> rfl
  split
  · split <;> rfl
  · split <;> rfl

set_option maxRecDepth 100000 in
set_option maxHeartbeats 8000000 in
theorem flight_walk (size : Int) (A : Option Addr) (cap : Nat) (ops : List Call) (w : World) (hops : OpsAt w w.heap.size A ops) :
    Calls Try.prog 5 #[.int .i64 size, .slice A ops.length cap] w fun e w' => e = .returned (.bool true) ∧ Below w.heap.size w w' := by
  by_cases hlen : 2147483647 < ops.length
  · have dl : decide ((2147483647 : Int) < (ops.length : Int)) = true := by simp; omega
    go_enter Try.func5, Try.ntmps5
    go_wp2_with fail
    go_ret
    exact ⟨rfl, Below.refl _ _⟩
  have dl : decide ((2147483647 : Int) < (ops.length : Int)) = false := by simp; omega
  have Htold := Lib.hid (told_any size A cap ops w hops (by omega))
  have Hops := Lib.hid hops
  have Hlen := Lib.hid hlen
  clear hops hlen
  go_enter Try.func5, Try.ntmps5
  go_wp2_with (go_at_call 12; refine Htold.out.mono ?_; rintro e w1 ⟨⟨v, rfl⟩ | ⟨A', c', rfl, hle, h0, h1, hall, hown⟩, hb⟩)
  · go_wp2_with fail
    go_ret
    exact ⟨rfl, hb⟩
  have hbs := hb.size
  have hopsv : OpsAt w1 w1.heap.size A' ops := OpsAt.of_own hown
  have hrun := run_any size A cap ops w1 ((Hops.out.keep hb).more hbs) hle h0 h1 (fun o ho => (hall o ho).good)
  have hinv := inv_at size h0 h1 ops hle (fun o ho => (hall o ho).good)
  have Hrun := Lib.hid hrun
  have Hinv := Lib.hid hinv
  have Hall := Lib.hid hall
  clear hrun hinv hall hown
  go_wp2_with (go_at_call 11; refine Hrun.out.mono ?_; rintro e w2 ⟨g, cap2, rfl, hown2, hb2⟩)
  have hb3 := below_on hb hbs hb2
  have hbs3 := hb3.size
  have hgl : g < w2.heap.size := by
    obtain ⟨g', cap', hv', _, hlt'⟩ := hown2.form (by omega)
    injection hv' with e1
    injection e1 with e1
    injection e1 with e1
    omega
  have hopsw : OpsAt w2 w2.heap.size A' ops := (hopsv.keep hb2).more hb2.size
  have hsrc : ∀ w3, Below w2.heap.size w2 w3 → ∀ k, k < ops.length + 1 → ∀ j v, (rowCells (stAt size ops k))[j]? = some v → w3.cell? ⟨g, k * 11 + j, none⟩ = some v :=
    fun w3 hb4 k hk j v hv => (hb4.cell (p := ⟨g, _, none⟩) hgl).trans (out_at hown2 rfl (k := k) (j := j) (by omega) hv)
  have Hsrc := Lib.hid hsrc
  have Hopsw := Lib.hid hopsw
  clear hsrc hown2 hb2 hb hopsv hopsw Hrun Htold Hops
  go_loopg [8, 27] ops.length (fun m n i wr => ∃ k : Nat, k ≤ ops.length ∧ m = ops.length - k ∧ n = .int .i64 (stAt size ops k).c.flight ∧ i = .int .i64 k ∧ Below w2.heap.size w2 wr)
  case atStart => exact ⟨0, by omega, by omega, rfl, rfl, Below.refl _ _⟩
  case round =>
    obtain ⟨k, hk, hn, rfl, rfl, hb⟩ := hrel
    have hbs' := hb.size
    have lg : g < wr.heap.size := by omega
    have Hn := Lib.hid hn
    clear hn
    by_cases hlt : k < ops.length
    · have hbd := (Hinv.out k (by omega)).1
      have hf0 := hbd.fl0
      have hf1 := hbd.fl1
      have Hst := Lib.hid (stAt_succ size ops hlt)
      obtain ⟨b, off, rfl, hbB, hc⟩ := Hopsw.out (by omega)
      obtain ⟨o, ho⟩ : ∃ o, ops[k] = o := ⟨_, rfl⟩
      have hz0 := (Hall.out _ (List.getElem_mem hlt)).size0
      have hz1 := (Hall.out _ (List.getElem_mem hlt)).size1
      rw [ho] at Hst hz0 hz1
      obtain ⟨f, hf⟩ : ∃ f, (stAt size ops k).c.flight = f := ⟨_, rfl⟩
      rw [hf] at hf0 hf1 ⊢
      have x0 : wr.cell? ⟨b, off + k * 12, none⟩ = some (.int .i64 o.kind) := (hb.cell (p := ⟨b, _, none⟩) hbB).trans (hc k hlt 0 _ (by rw [ho]; rfl))
      have x1 : wr.cell? ⟨b, off + k * 12 + 1, none⟩ = some (.int .i64 o.space) := (hb.cell (p := ⟨b, _, none⟩) hbB).trans (hc k hlt 1 _ (by rw [ho]; rfl))
      have x2 : wr.cell? ⟨b, off + k * 12 + 2, none⟩ = some (.int .i64 o.now) := (hb.cell (p := ⟨b, _, none⟩) hbB).trans (hc k hlt 2 _ (by rw [ho]; rfl))
      have x3 : wr.cell? ⟨b, off + k * 12 + 3, none⟩ = some (.int .i64 o.time) := (hb.cell (p := ⟨b, _, none⟩) hbB).trans (hc k hlt 3 _ (by rw [ho]; rfl))
      have x4 : wr.cell? ⟨b, off + k * 12 + 4, none⟩ = some (.int .i64 o.num) := (hb.cell (p := ⟨b, _, none⟩) hbB).trans (hc k hlt 4 _ (by rw [ho]; rfl))
      have x5 : wr.cell? ⟨b, off + k * 12 + 5, none⟩ = some (.int .i64 o.size) := (hb.cell (p := ⟨b, _, none⟩) hbB).trans (hc k hlt 5 _ (by rw [ho]; rfl))
      have x6 : wr.cell? ⟨b, off + k * 12 + 6, none⟩ = some (.bool o.el) := (hb.cell (p := ⟨b, _, none⟩) hbB).trans (hc k hlt 6 _ (by rw [ho]; rfl))
      have x7 : wr.cell? ⟨b, off + k * 12 + 7, none⟩ = some (.bool o.inf) := (hb.cell (p := ⟨b, _, none⟩) hbB).trans (hc k hlt 7 _ (by rw [ho]; rfl))
      have x8 : wr.cell? ⟨b, off + k * 12 + 8, none⟩ = some (.bool o.v) := (hb.cell (p := ⟨b, _, none⟩) hbB).trans (hc k hlt 8 _ (by rw [ho]; rfl))
      have x9 : wr.cell? ⟨b, off + k * 12 + 9, none⟩ = some (.int .i64 o.latest) := (hb.cell (p := ⟨b, _, none⟩) hbB).trans (hc k hlt 9 _ (by rw [ho]; rfl))
      have x10 : wr.cell? ⟨b, off + k * 12 + 10, none⟩ = some (.int .i64 o.delay) := (hb.cell (p := ⟨b, _, none⟩) hbB).trans (hc k hlt 10 _ (by rw [ho]; rfl))
      have x11 : wr.cell? ⟨b, off + k * 12 + 11, none⟩ = some (.int .i64 o.limit) := (hb.cell (p := ⟨b, _, none⟩) hbB).trans (hc k hlt 11 _ (by rw [ho]; rfl))
      have HF := Lib.hid hf
      clear ho hc hf hbd
      rcases hinf : o.inf with _ | _
      · rw [hinf] at x7
        have Hinf := Lib.hid hinf
        clear hinf
        have y1 : wr.cell? ⟨g, (k + 1) * 11 + 1, none⟩ = some (.int .i64 (f)) := by
          have h := Hsrc.out wr hb (k + 1) (by omega) 1 _ rfl
          rw [h, Hst.out, flight_step]
          simp [Hinf.out, HF.out]
        go_wp2_with fail
        go_roundg (gk - 1)
        case measure => have := Hn.out; omega
        case rel => exact ⟨k + 1, by omega, by have := Hn.out; omega, by rw [Hst.out, flight_step]; simp [Hinf.out, HF.out], by go_num, hb.alloc hbs' _⟩
      · rw [hinf] at x7
        have Hinf := Lib.hid hinf
        clear hinf
        by_cases k0 : o.kind = 0
        · have d0 : (o.kind == 0) = true := by rw [k0]; rfl
          have Hkd := Lib.hid k0
          clear k0
          have y1 : wr.cell? ⟨g, (k + 1) * 11 + 1, none⟩ = some (.int .i64 (f + o.size)) := by
            have h := Hsrc.out wr hb (k + 1) (by omega) 1 _ rfl
            rw [h, Hst.out, flight_step]
            simp [Hinf.out, Hkd.out, HF.out]
          go_wp2_with fail
          go_roundg (gk - 1)
          case measure => have := Hn.out; omega
          case rel => exact ⟨k + 1, by omega, by have := Hn.out; omega, by rw [Hst.out, flight_step]; simp [Hinf.out, Hkd.out, HF.out], by go_num, hb.alloc hbs' _⟩
        have d0 : (o.kind == 0) = false := by simpa using k0
        by_cases k1 : o.kind = 1
        · have d1 : (o.kind == 1) = true := by rw [k1]; rfl
          have Hkd := Lib.hid k1
          clear k1 k0
          have y1 : wr.cell? ⟨g, (k + 1) * 11 + 1, none⟩ = some (.int .i64 (f - o.size)) := by
            have h := Hsrc.out wr hb (k + 1) (by omega) 1 _ rfl
            rw [h, Hst.out, flight_step]
            simp [Hinf.out, Hkd.out, HF.out]
          go_wp2_with fail
          go_roundg (gk - 1)
          case measure => have := Hn.out; omega
          case rel => exact ⟨k + 1, by omega, by have := Hn.out; omega, by rw [Hst.out, flight_step]; simp [Hinf.out, Hkd.out, HF.out], by go_num, hb.alloc hbs' _⟩
        have d1 : (o.kind == 1) = false := by simpa using k1
        by_cases k2 : o.kind = 2
        · have d2 : (o.kind == 2) = true := by rw [k2]; rfl
          have Hkd := Lib.hid k2
          clear k2 k1 k0
          have y1 : wr.cell? ⟨g, (k + 1) * 11 + 1, none⟩ = some (.int .i64 (f - o.size)) := by
            have h := Hsrc.out wr hb (k + 1) (by omega) 1 _ rfl
            rw [h, Hst.out, flight_step]
            simp [Hinf.out, Hkd.out, HF.out]
          go_wp2_with fail
          go_roundg (gk - 1)
          case measure => have := Hn.out; omega
          case rel => exact ⟨k + 1, by omega, by have := Hn.out; omega, by rw [Hst.out, flight_step]; simp [Hinf.out, Hkd.out, HF.out], by go_num, hb.alloc hbs' _⟩
        have d2 : (o.kind == 2) = false := by simpa using k2
        by_cases k3 : o.kind = 3
        · have d3 : (o.kind == 3) = true := by rw [k3]; rfl
          have Hkd := Lib.hid k3
          clear k3 k2 k1 k0
          have y1 : wr.cell? ⟨g, (k + 1) * 11 + 1, none⟩ = some (.int .i64 (f - o.size)) := by
            have h := Hsrc.out wr hb (k + 1) (by omega) 1 _ rfl
            rw [h, Hst.out, flight_step]
            simp [Hinf.out, Hkd.out, HF.out]
          go_wp2_with fail
          go_roundg (gk - 1)
          case measure => have := Hn.out; omega
          case rel => exact ⟨k + 1, by omega, by have := Hn.out; omega, by rw [Hst.out, flight_step]; simp [Hinf.out, Hkd.out, HF.out], by go_num, hb.alloc hbs' _⟩
        have d3 : (o.kind == 3) = false := by simpa using k3
        have Hkd := Lib.hid (show (o.kind = 0) = False ∧ (o.kind = 1) = False ∧ (o.kind = 2) = False ∧ (o.kind = 3) = False from ⟨eq_false k0, eq_false k1, eq_false k2, eq_false k3⟩)
        clear k3 k2 k1 k0
        have y1 : wr.cell? ⟨g, (k + 1) * 11 + 1, none⟩ = some (.int .i64 (f)) := by
          have h := Hsrc.out wr hb (k + 1) (by omega) 1 _ rfl
          rw [h, Hst.out, flight_step]
          simp [Hinf.out, Hkd.out, HF.out]
        go_wp2_with fail
        go_roundg (gk - 1)
        case measure => have := Hn.out; omega
        case rel => exact ⟨k + 1, by omega, by have := Hn.out; omega, by rw [Hst.out, flight_step]; simp [Hinf.out, Hkd.out, HF.out], by go_num, hb.alloc hbs' _⟩
    · go_wp2_with fail
      go_ret
      exact ⟨rfl, below_on hb3 hbs3 hb⟩

end Go.Proofs.Ytpaociigfbibbaa

