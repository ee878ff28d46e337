/-
  FnGrowth: its walk.
-/
import Derived.Test.YtpaociigfbibbaaGrowLaw
import Derived.Test.YtpaociigfbibbaaFirst
import Derived.BigRegion
import Derived.StillTailTactics
namespace Go.Proofs.Ytpaociigfbibbaa
open Go.RowKit

theorem below_two {B : Nat} {a w : World} (h : Below B a w) (hB : B ≤ w.heap.size) (o1 o2 : Obj) : Below B a ((w.alloc o1).alloc o2) := (h.alloc hB o1).alloc (by simp; omega) o2

set_option maxRecDepth 100000 in
set_option maxHeartbeats 8000000 in
theorem growth_walk (size : Int) (A : Option Addr) (cap : Nat) (ops : List Call) (w : World) (hops : OpsAt w w.heap.size A ops) :
    Calls Try.prog 6 #[.int .i64 size, .slice A ops.length cap] w fun e w' => e = .returned (.bool true) ∧ Below w.heap.size w w' := by
  by_cases hlen : 2147483647 < ops.length
  · have dl : decide ((2147483647 : Int) < (ops.length : Int)) = true := by simp; omega
    go_enter Try.func6, Try.ntmps6
    go_wp2_with fail
    go_ret
    exact ⟨rfl, Below.refl _ _⟩
  have dl : decide ((2147483647 : Int) < (ops.length : Int)) = false := by simp; omega
  have Htold := Lib.hid (told_any size A cap ops w hops (by omega))
  have Hops := Lib.hid hops
  have Hlen := Lib.hid hlen
  clear hops hlen
  go_enter Try.func6, Try.ntmps6
  go_wp2_with (go_at_call 12; refine Htold.out.mono ?_; rintro e w1 ⟨⟨v, rfl⟩ | ⟨A', c', rfl, hle, h0, h1, hall, hown⟩, hb⟩)
  · go_wp2_with fail
    go_ret
    exact ⟨rfl, hb⟩
  have hbs := hb.size
  have hopsv : OpsAt w1 w1.heap.size A' ops := OpsAt.of_own hown
  have hrun := run_any size A cap ops w1 ((Hops.out.keep hb).more hbs) hle h0 h1 (fun o ho => (hall o ho).good)
  have hinv := inv_at size h0 h1 ops hle (fun o ho => (hall o ho).good)
  have Hrun := Lib.hid hrun
  have Hinv := Lib.hid hinv
  have Hall := Lib.hid hall
  clear hrun hinv hall hown
  go_wp2_with (go_at_call 11; refine Hrun.out.mono ?_; rintro e w2 ⟨g, cap2, rfl, hown2, hb2⟩)
  have hb3 := below_on hb hbs hb2
  have hbs3 := hb3.size
  have hgl : g < w2.heap.size := by
    obtain ⟨g', cap', hv', _, hlt'⟩ := hown2.form (by omega)
    injection hv' with e1
    injection e1 with e1
    injection e1 with e1
    omega
  have hopsw : OpsAt w2 w2.heap.size A' ops := (hopsv.keep hb2).more hb2.size
  have hsrc : ∀ w3, Below w2.heap.size w2 w3 → ∀ k, k < ops.length + 1 → ∀ j v, (rowCells (stAt size ops k))[j]? = some v → w3.cell? ⟨g, k * 11 + j, none⟩ = some v :=
    fun w3 hb4 k hk j v hv => (hb4.cell (p := ⟨g, _, none⟩) hgl).trans (out_at hown2 rfl (k := k) (j := j) (by omega) hv)
  have Hsrc := Lib.hid hsrc
  have Hopsw := Lib.hid hopsw
  clear hsrc hown2 hb2 hb hopsv hopsw Hrun Htold Hops
  go_wp2_with fail
  go_loopg [34] ops.length (fun m i wr => ∃ k : Nat, k ≤ ops.length ∧ m = ops.length - k ∧ i = .int .i64 k ∧ Below w2.heap.size w2 wr)
  case atStart => exact ⟨0, by omega, by omega, rfl, Below.refl _ _⟩
  case round =>
    obtain ⟨k, hk, hn, rfl, hb⟩ := hrel
    have hbs' := hb.size
    have lg : g < wr.heap.size := by omega
    have Hn := Lib.hid hn
    clear hn
    by_cases hlt : k < ops.length
    · obtain ⟨b, off, rfl, hbB, hc⟩ := Hopsw.out (by omega)
      obtain ⟨o, ho⟩ : ∃ o, ops[k] = o := ⟨_, rfl⟩
      have x0 : wr.cell? ⟨b, off + k * 12, none⟩ = some (.int .i64 o.kind) := (hb.cell (p := ⟨b, _, none⟩) hbB).trans (hc k hlt 0 _ (by rw [ho]; rfl))
      have x1 : wr.cell? ⟨b, off + k * 12 + 1, none⟩ = some (.int .i64 o.space) := (hb.cell (p := ⟨b, _, none⟩) hbB).trans (hc k hlt 1 _ (by rw [ho]; rfl))
      have x2 : wr.cell? ⟨b, off + k * 12 + 2, none⟩ = some (.int .i64 o.now) := (hb.cell (p := ⟨b, _, none⟩) hbB).trans (hc k hlt 2 _ (by rw [ho]; rfl))
      have x3 : wr.cell? ⟨b, off + k * 12 + 3, none⟩ = some (.int .i64 o.time) := (hb.cell (p := ⟨b, _, none⟩) hbB).trans (hc k hlt 3 _ (by rw [ho]; rfl))
      have x4 : wr.cell? ⟨b, off + k * 12 + 4, none⟩ = some (.int .i64 o.num) := (hb.cell (p := ⟨b, _, none⟩) hbB).trans (hc k hlt 4 _ (by rw [ho]; rfl))
      have x5 : wr.cell? ⟨b, off + k * 12 + 5, none⟩ = some (.int .i64 o.size) := (hb.cell (p := ⟨b, _, none⟩) hbB).trans (hc k hlt 5 _ (by rw [ho]; rfl))
      have x6 : wr.cell? ⟨b, off + k * 12 + 6, none⟩ = some (.bool o.el) := (hb.cell (p := ⟨b, _, none⟩) hbB).trans (hc k hlt 6 _ (by rw [ho]; rfl))
      have x7 : wr.cell? ⟨b, off + k * 12 + 7, none⟩ = some (.bool o.inf) := (hb.cell (p := ⟨b, _, none⟩) hbB).trans (hc k hlt 7 _ (by rw [ho]; rfl))
      have x8 : wr.cell? ⟨b, off + k * 12 + 8, none⟩ = some (.bool o.v) := (hb.cell (p := ⟨b, _, none⟩) hbB).trans (hc k hlt 8 _ (by rw [ho]; rfl))
      have x9 : wr.cell? ⟨b, off + k * 12 + 9, none⟩ = some (.int .i64 o.latest) := (hb.cell (p := ⟨b, _, none⟩) hbB).trans (hc k hlt 9 _ (by rw [ho]; rfl))
      have x10 : wr.cell? ⟨b, off + k * 12 + 10, none⟩ = some (.int .i64 o.delay) := (hb.cell (p := ⟨b, _, none⟩) hbB).trans (hc k hlt 10 _ (by rw [ho]; rfl))
      have x11 : wr.cell? ⟨b, off + k * 12 + 11, none⟩ = some (.int .i64 o.limit) := (hb.cell (p := ⟨b, _, none⟩) hbB).trans (hc k hlt 11 _ (by rw [ho]; rfl))
      obtain ⟨yv0, ye0⟩ : ∃ v, (stAt size ops (k)).c.window = v := ⟨_, rfl⟩
      have y0 : wr.cell? ⟨g, k * 11, none⟩ = some (.int .i64 yv0) := Hsrc.out wr hb (k) (by omega) 0 _ (by rw [← ye0]; rfl)
      obtain ⟨yv1, ye1⟩ : ∃ v, (stAt size ops (k)).c.flight = v := ⟨_, rfl⟩
      have y1 : wr.cell? ⟨g, k * 11 + 1, none⟩ = some (.int .i64 yv1) := Hsrc.out wr hb (k) (by omega) 1 _ (by rw [← ye1]; rfl)
      obtain ⟨yv2, ye2⟩ : ∃ v, (stAt size ops (k)).c.thresh = v := ⟨_, rfl⟩
      have y2 : wr.cell? ⟨g, k * 11 + 2, none⟩ = some (.int .i64 yv2) := Hsrc.out wr hb (k) (by omega) 2 _ (by rw [← ye2]; rfl)
      obtain ⟨yv3, ye3⟩ : ∃ v, (stAt size ops (k)).c.pend = v := ⟨_, rfl⟩
      have y3 : wr.cell? ⟨g, k * 11 + 3, none⟩ = some (.int .i64 yv3) := Hsrc.out wr hb (k) (by omega) 3 _ (by rw [← ye3]; rfl)
      obtain ⟨yv4, ye4⟩ : ∃ v, ((stAt size ops (k)).c.one || decide ((stAt size ops (k)).c.flight + (stAt size ops (k)).c.size ≤ (stAt size ops (k)).c.window)) = v := ⟨_, rfl⟩
      have y4 : wr.cell? ⟨g, k * 11 + 4, none⟩ = some (.bool yv4) := Hsrc.out wr hb (k) (by omega) 4 _ (by rw [← ye4]; rfl)
      obtain ⟨yv5, ye5⟩ : ∃ v, (stAt size ops (k)).c.one = v := ⟨_, rfl⟩
      have y5 : wr.cell? ⟨g, k * 11 + 5, none⟩ = some (.bool yv5) := Hsrc.out wr hb (k) (by omega) 5 _ (by rw [← ye5]; rfl)
      obtain ⟨yv6, ye6⟩ : ∃ v, (stAt size ops (k)).c.inr = v := ⟨_, rfl⟩
      have y6 : wr.cell? ⟨g, k * 11 + 6, none⟩ = some (.bool yv6) := Hsrc.out wr hb (k) (by omega) 6 _ (by rw [← ye6]; rfl)
      obtain ⟨yv7, ye7⟩ : ∃ v, stateBytes (stAt size ops (k)).c = v := ⟨_, rfl⟩
      have y7 : wr.cell? ⟨g, k * 11 + 7, none⟩ = some (.string yv7) := Hsrc.out wr hb (k) (by omega) 7 _ (by rw [← ye7]; rfl)
      obtain ⟨yv8, ye8⟩ : ∃ v, (stAt size ops (k)).r.least = v := ⟨_, rfl⟩
      have y8 : wr.cell? ⟨g, k * 11 + 8, none⟩ = some (.int .i64 yv8) := Hsrc.out wr hb (k) (by omega) 8 _ (by rw [← ye8]; rfl)
      obtain ⟨yv9, ye9⟩ : ∃ v, (stAt size ops (k)).r.smooth = v := ⟨_, rfl⟩
      have y9 : wr.cell? ⟨g, k * 11 + 9, none⟩ = some (.int .i64 yv9) := Hsrc.out wr hb (k) (by omega) 9 _ (by rw [← ye9]; rfl)
      obtain ⟨yv10, ye10⟩ : ∃ v, (stAt size ops (k)).r.dev = v := ⟨_, rfl⟩
      have y10 : wr.cell? ⟨g, k * 11 + 10, none⟩ = some (.int .i64 yv10) := Hsrc.out wr hb (k) (by omega) 10 _ (by rw [← ye10]; rfl)
      obtain ⟨zv0, ze0⟩ : ∃ v, (stAt size ops (k + 1)).c.window = v := ⟨_, rfl⟩
      have z0 : wr.cell? ⟨g, (k + 1) * 11, none⟩ = some (.int .i64 zv0) := Hsrc.out wr hb (k + 1) (by omega) 0 _ (by rw [← ze0]; rfl)
      obtain ⟨zv1, ze1⟩ : ∃ v, (stAt size ops (k + 1)).c.flight = v := ⟨_, rfl⟩
      have z1 : wr.cell? ⟨g, (k + 1) * 11 + 1, none⟩ = some (.int .i64 zv1) := Hsrc.out wr hb (k + 1) (by omega) 1 _ (by rw [← ze1]; rfl)
      obtain ⟨zv2, ze2⟩ : ∃ v, (stAt size ops (k + 1)).c.thresh = v := ⟨_, rfl⟩
      have z2 : wr.cell? ⟨g, (k + 1) * 11 + 2, none⟩ = some (.int .i64 zv2) := Hsrc.out wr hb (k + 1) (by omega) 2 _ (by rw [← ze2]; rfl)
      obtain ⟨zv3, ze3⟩ : ∃ v, (stAt size ops (k + 1)).c.pend = v := ⟨_, rfl⟩
      have z3 : wr.cell? ⟨g, (k + 1) * 11 + 3, none⟩ = some (.int .i64 zv3) := Hsrc.out wr hb (k + 1) (by omega) 3 _ (by rw [← ze3]; rfl)
      obtain ⟨zv4, ze4⟩ : ∃ v, ((stAt size ops (k + 1)).c.one || decide ((stAt size ops (k + 1)).c.flight + (stAt size ops (k + 1)).c.size ≤ (stAt size ops (k + 1)).c.window)) = v := ⟨_, rfl⟩
      have z4 : wr.cell? ⟨g, (k + 1) * 11 + 4, none⟩ = some (.bool zv4) := Hsrc.out wr hb (k + 1) (by omega) 4 _ (by rw [← ze4]; rfl)
      obtain ⟨zv5, ze5⟩ : ∃ v, (stAt size ops (k + 1)).c.one = v := ⟨_, rfl⟩
      have z5 : wr.cell? ⟨g, (k + 1) * 11 + 5, none⟩ = some (.bool zv5) := Hsrc.out wr hb (k + 1) (by omega) 5 _ (by rw [← ze5]; rfl)
      obtain ⟨zv6, ze6⟩ : ∃ v, (stAt size ops (k + 1)).c.inr = v := ⟨_, rfl⟩
      have z6 : wr.cell? ⟨g, (k + 1) * 11 + 6, none⟩ = some (.bool zv6) := Hsrc.out wr hb (k + 1) (by omega) 6 _ (by rw [← ze6]; rfl)
      obtain ⟨zv7, ze7⟩ : ∃ v, stateBytes (stAt size ops (k + 1)).c = v := ⟨_, rfl⟩
      have z7 : wr.cell? ⟨g, (k + 1) * 11 + 7, none⟩ = some (.string zv7) := Hsrc.out wr hb (k + 1) (by omega) 7 _ (by rw [← ze7]; rfl)
      obtain ⟨zv8, ze8⟩ : ∃ v, (stAt size ops (k + 1)).r.least = v := ⟨_, rfl⟩
      have z8 : wr.cell? ⟨g, (k + 1) * 11 + 8, none⟩ = some (.int .i64 zv8) := Hsrc.out wr hb (k + 1) (by omega) 8 _ (by rw [← ze8]; rfl)
      obtain ⟨zv9, ze9⟩ : ∃ v, (stAt size ops (k + 1)).r.smooth = v := ⟨_, rfl⟩
      have z9 : wr.cell? ⟨g, (k + 1) * 11 + 9, none⟩ = some (.int .i64 zv9) := Hsrc.out wr hb (k + 1) (by omega) 9 _ (by rw [← ze9]; rfl)
      obtain ⟨zv10, ze10⟩ : ∃ v, (stAt size ops (k + 1)).r.dev = v := ⟨_, rfl⟩
      have z10 : wr.cell? ⟨g, (k + 1) * 11 + 10, none⟩ = some (.int .i64 zv10) := Hsrc.out wr hb (k + 1) (by omega) 10 _ (by rw [← ze10]; rfl)
      have Hst := Lib.hid (stAt_succ size ops hlt)
      rw [ho] at Hst
      clear ho hc
      have ik : (k : Int) < (ops.length : Int) + 1 := by omega
      have ik2 : (k : Int) + 1 < (ops.length : Int) + 1 := by omega
      have hwk : IntKind.i64.wrap ((k : Int) + 1) = (k : Int) + 1 := IntWalk.i64_in _ (by omega)
      have hnk : ((k : Int) + 1).toNat = k + 1 := by omega
      have ik4 : (0 : Int) ≤ (k : Int) + 1 := by omega
      have ik3 : (k : Int) < (ops.length : Int) := by omega
      have hbA : Below wr.heap.size wr (wr.alloc (.cells (opVals o).toArray 34)) := (Below.refl _ _).alloc (Nat.le_refl _) _
      go_wp2_with fail
      refine wp_forget (fun w' => Blk w' wr.heap.size 34 (opVals o).toArray ∧ Below w2.heap.size w2 w' ∧ wr.heap.size < w'.heap.size ∧ (w'.cell? ⟨g, k * 11, none⟩ = some (.int .i64 yv0) ∧ w'.cell? ⟨g, k * 11 + 1, none⟩ = some (.int .i64 yv1) ∧ w'.cell? ⟨g, k * 11 + 2, none⟩ = some (.int .i64 yv2) ∧ w'.cell? ⟨g, k * 11 + 3, none⟩ = some (.int .i64 yv3) ∧ w'.cell? ⟨g, k * 11 + 4, none⟩ = some (.bool yv4) ∧ w'.cell? ⟨g, k * 11 + 5, none⟩ = some (.bool yv5) ∧ w'.cell? ⟨g, k * 11 + 6, none⟩ = some (.bool yv6) ∧ w'.cell? ⟨g, k * 11 + 7, none⟩ = some (.string yv7) ∧ w'.cell? ⟨g, k * 11 + 8, none⟩ = some (.int .i64 yv8) ∧ w'.cell? ⟨g, k * 11 + 9, none⟩ = some (.int .i64 yv9) ∧ w'.cell? ⟨g, k * 11 + 10, none⟩ = some (.int .i64 yv10) ∧ w'.cell? ⟨g, (k + 1) * 11, none⟩ = some (.int .i64 zv0) ∧ w'.cell? ⟨g, (k + 1) * 11 + 1, none⟩ = some (.int .i64 zv1) ∧ w'.cell? ⟨g, (k + 1) * 11 + 2, none⟩ = some (.int .i64 zv2) ∧ w'.cell? ⟨g, (k + 1) * 11 + 3, none⟩ = some (.int .i64 zv3) ∧ w'.cell? ⟨g, (k + 1) * 11 + 4, none⟩ = some (.bool zv4) ∧ w'.cell? ⟨g, (k + 1) * 11 + 5, none⟩ = some (.bool zv5) ∧ w'.cell? ⟨g, (k + 1) * 11 + 6, none⟩ = some (.bool zv6) ∧ w'.cell? ⟨g, (k + 1) * 11 + 7, none⟩ = some (.string zv7) ∧ w'.cell? ⟨g, (k + 1) * 11 + 8, none⟩ = some (.int .i64 zv8) ∧ w'.cell? ⟨g, (k + 1) * 11 + 9, none⟩ = some (.int .i64 zv9) ∧ w'.cell? ⟨g, (k + 1) * 11 + 10, none⟩ = some (.int .i64 zv10))) ⟨Blk.new wr 34 _, hb.alloc hbs' _, by simp, (hbA.cell (p := ⟨g, _, none⟩) lg).trans y0, (hbA.cell (p := ⟨g, _, none⟩) lg).trans y1, (hbA.cell (p := ⟨g, _, none⟩) lg).trans y2, (hbA.cell (p := ⟨g, _, none⟩) lg).trans y3, (hbA.cell (p := ⟨g, _, none⟩) lg).trans y4, (hbA.cell (p := ⟨g, _, none⟩) lg).trans y5, (hbA.cell (p := ⟨g, _, none⟩) lg).trans y6, (hbA.cell (p := ⟨g, _, none⟩) lg).trans y7, (hbA.cell (p := ⟨g, _, none⟩) lg).trans y8, (hbA.cell (p := ⟨g, _, none⟩) lg).trans y9, (hbA.cell (p := ⟨g, _, none⟩) lg).trans y10, (hbA.cell (p := ⟨g, _, none⟩) lg).trans z0, (hbA.cell (p := ⟨g, _, none⟩) lg).trans z1, (hbA.cell (p := ⟨g, _, none⟩) lg).trans z2, (hbA.cell (p := ⟨g, _, none⟩) lg).trans z3, (hbA.cell (p := ⟨g, _, none⟩) lg).trans z4, (hbA.cell (p := ⟨g, _, none⟩) lg).trans z5, (hbA.cell (p := ⟨g, _, none⟩) lg).trans z6, (hbA.cell (p := ⟨g, _, none⟩) lg).trans z7, (hbA.cell (p := ⟨g, _, none⟩) lg).trans z8, (hbA.cell (p := ⟨g, _, none⟩) lg).trans z9, (hbA.cell (p := ⟨g, _, none⟩) lg).trans z10⟩ ?_
      rintro W ⟨hbo, hbW, lW, y0, y1, y2, y3, y4, y5, y6, y7, y8, y9, y10, z0, z1, z2, z3, z4, z5, z6, z7, z8, z9, z10⟩
      have hbWs := hbW.size
      have lgW : g < W.heap.size := by omega
      have c0 : W.cell? ⟨wr.heap.size, 0, none⟩ = some (.int .i64 o.kind) := hbo.cell 0
      have Hb := Lib.hid hbW
      have He := Lib.hid (And.intro ye0 (And.intro ye2 (And.intro ye3 ze0)))
      clear hbW ye0 ye1 ye2 ye3 ye4 ye5 ye6 ye7 ye8 ye9 ye10 ze0 ze1 ze2 ze3 ze4 ze5 ze6 ze7 ze8 ze9 ze10
      have hbd := (Hinv.out k (by omega)).1
      have hbd' := (Hinv.out (k + 1) (by omega)).1
      have hgr : o.kind = 4 → zv0 - yv0 ≤ yv3 ∧ (yv2 ≤ yv0 → zv0 - yv0 ≤ size * (yv3 / yv0)) := by
        intro h4
        have h := grow_end (by omega) hbd (o := o) h4
        rw [← Hst.out, He.out.1, He.out.2.1, He.out.2.2.1, He.out.2.2.2] at h
        exact h
      have b0 : 2400 ≤ yv0 ∧ yv0 ≤ 66190270 := by have := hbd.w0; have := hbd.wp; have := hbd.p0; have := He.out.1; omega
      have b3 : 0 ≤ yv3 ∧ yv3 ≤ 66190270 := by have := hbd.w0; have := hbd.wp; have := hbd.p0; have := He.out.1; have := He.out.2.2.1; omega
      have bz : 2400 ≤ zv0 ∧ zv0 ≤ 66190270 := by have := hbd'.w0; have := hbd'.wp; have := hbd'.p0; have := He.out.2.2.2; omega
      obtain ⟨b01, b02⟩ := b0
      obtain ⟨b31, b32⟩ := b3
      obtain ⟨bz1, bz2⟩ := bz
      have hq0 : 0 ≤ yv3 / yv0 := Int.ediv_nonneg b31 (by omega)
      have hq1 : yv3 / yv0 ≤ 66190270 := Int.le_trans (Int.ediv_le_self _ b31) b32
      have hm0 : 0 ≤ size * (yv3 / yv0) := Int.mul_nonneg (by omega) hq0
      have hm1 : size * (yv3 / yv0) ≤ 65527 * 66190270 := Int.mul_le_mul h1 hq1 hq0 (by omega)
      have hwm : IntKind.i64.wrap (size * (yv3 / yv0)) = size * (yv3 / yv0) := IntWalk.i64_in _ (by omega)
      have n0 : ¬ yv0 = 0 := by omega
      clear hbd hbd'
      have Hgr := Lib.hid hgr
      clear hgr
      by_cases k4 : o.kind = 4
      · have hgr := Hgr.out k4
        rw [k4] at c0
        clear k4
        have e2 : decide (yv3 + size < zv0 - yv0) = false := by have := hgr.1; simp; omega
        by_cases ht : yv2 ≤ yv0
        · have e3 : decide (yv2 ≤ yv0) = true := by simpa using ht
          have e4 : decide (size * (yv3 / yv0) < zv0 - yv0) = false := by have := hgr.2 ht; simp; omega
          clear hgr ht
          by_cases hg : yv0 < zv0
          · have e1 : decide (yv0 < zv0) = true := by simpa using hg
            clear hg
            go_region
            all_goals
              go_wp2_with fail
              go_quiet (fail)
              go_wp2_with fail
              go_roundg (gk - 1)
              case measure => have := Hn.out; omega
              case rel => exact ⟨k + 1, by omega, by have := Hn.out; omega, by go_num, by first | exact below_drewN (below_two Hb.out hbWs _ _).drew _ | exact (below_drewN (below_two Hb.out hbWs _ _) _).drew | exact below_drewN (below_drewN (below_two Hb.out hbWs _ _) _) _ | exact below_drewN (below_two Hb.out hbWs _ _) _⟩
          · have e1 : decide (yv0 < zv0) = false := by simpa using hg
            clear hg
            go_region
            all_goals
              go_wp2_with fail
              go_quiet (fail)
              go_wp2_with fail
              go_roundg (gk - 1)
              case measure => have := Hn.out; omega
              case rel => exact ⟨k + 1, by omega, by have := Hn.out; omega, by go_num, by first | exact below_drewN (below_two Hb.out hbWs _ _).drew _ | exact (below_drewN (below_two Hb.out hbWs _ _) _).drew | exact below_drewN (below_drewN (below_two Hb.out hbWs _ _) _) _ | exact below_drewN (below_two Hb.out hbWs _ _) _⟩
        · have e3 : decide (yv2 ≤ yv0) = false := by simpa using ht
          clear hgr ht
          by_cases hg : yv0 < zv0
          · have e1 : decide (yv0 < zv0) = true := by simpa using hg
            clear hg
            go_region
            all_goals
              go_wp2_with fail
              go_quiet (fail)
              go_wp2_with fail
              go_roundg (gk - 1)
              case measure => have := Hn.out; omega
              case rel => exact ⟨k + 1, by omega, by have := Hn.out; omega, by go_num, by first | exact below_drewN (below_two Hb.out hbWs _ _).drew _ | exact (below_drewN (below_two Hb.out hbWs _ _) _).drew | exact below_drewN (below_drewN (below_two Hb.out hbWs _ _) _) _ | exact below_drewN (below_two Hb.out hbWs _ _) _⟩
          · have e1 : decide (yv0 < zv0) = false := by simpa using hg
            clear hg
            go_region
            all_goals
              go_wp2_with fail
              go_quiet (fail)
              go_wp2_with fail
              go_roundg (gk - 1)
              case measure => have := Hn.out; omega
              case rel => exact ⟨k + 1, by omega, by have := Hn.out; omega, by go_num, by first | exact below_drewN (below_two Hb.out hbWs _ _).drew _ | exact (below_drewN (below_two Hb.out hbWs _ _) _).drew | exact below_drewN (below_drewN (below_two Hb.out hbWs _ _) _) _ | exact below_drewN (below_two Hb.out hbWs _ _) _⟩
      · have d4 : (o.kind == 4) = false := by simpa using k4
        clear k4
        go_region
        all_goals
          go_wp2_with fail
          go_quiet (fail)
          go_wp2_with fail
          go_roundg (gk - 1)
          case measure => have := Hn.out; omega
          case rel => exact ⟨k + 1, by omega, by have := Hn.out; omega, by go_num, by first | exact below_drewN (below_two Hb.out hbWs _ _).drew _ | exact (below_drewN (below_two Hb.out hbWs _ _) _).drew | exact below_drewN (below_drewN (below_two Hb.out hbWs _ _) _) _ | exact below_drewN (below_two Hb.out hbWs _ _) _⟩
    · go_wp2_with fail
      go_ret
      exact ⟨rfl, below_on hb3 hbs3 hb⟩

end Go.Proofs.Ytpaociigfbibbaa

