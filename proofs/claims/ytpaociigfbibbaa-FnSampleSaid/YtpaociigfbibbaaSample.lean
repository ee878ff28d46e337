/-
  FnSample: its walk.
-/
import Derived.Test.YtpaociigfbibbaaGrowLaw
import Derived.Test.YtpaociigfbibbaaFirst
import Derived.BigRegion
namespace Go.Proofs.Ytpaociigfbibbaa
open Go.RowKit

attribute [local go_sem ↓] min_two

theorem below_twoS {B : Nat} {a w : World} (h : Below B a w) (hB : B ≤ w.heap.size) (o1 o2 : Obj) : Below B a ((w.alloc o1).alloc o2) := (h.alloc hB o1).alloc (by simp; omega) o2

set_option maxRecDepth 100000 in
set_option maxHeartbeats 8000000 in
theorem sample_walk (size : Int) (A : Option Addr) (cap : Nat) (ops : List Call) (w : World) (hops : OpsAt w w.heap.size A ops) :
    Calls Try.prog 8 #[.int .i64 size, .slice A ops.length cap] w fun e w' => e = .returned (.bool true) ∧ Below w.heap.size w w' := by
  by_cases hlen : 2147483647 < ops.length
  · have dl : decide ((2147483647 : Int) < (ops.length : Int)) = true := by simp; omega
    go_enter Try.func8, Try.ntmps8
    go_wp2_with fail
    go_ret
    exact ⟨rfl, Below.refl _ _⟩
  have dl : decide ((2147483647 : Int) < (ops.length : Int)) = false := by simp; omega
  have Htold := Lib.hid (told_any size A cap ops w hops (by omega))
  have Hops := Lib.hid hops
  have Hlen := Lib.hid hlen
  clear hops hlen
  go_enter Try.func8, Try.ntmps8
  go_wp2_with (go_at_call 12; refine Htold.out.mono ?_; rintro e w1 ⟨⟨v, rfl⟩ | ⟨A', c', rfl, hle, h0, h1, hall, hown⟩, hb⟩)
  · go_wp2_with fail
    go_ret
    exact ⟨rfl, hb⟩
  have hbs := hb.size
  have hopsv : OpsAt w1 w1.heap.size A' ops := OpsAt.of_own hown
  have hrun := run_any size A cap ops w1 ((Hops.out.keep hb).more hbs) hle h0 h1 (fun o ho => (hall o ho).good)
  have hinv := inv_at size h0 h1 ops hle (fun o ho => (hall o ho).good)
  have Hrun := Lib.hid hrun
  have Hinv := Lib.hid hinv
  have Hall := Lib.hid hall
  clear hrun hinv hall hown
  go_wp2_with (go_at_call 11; refine Hrun.out.mono ?_; rintro e w2 ⟨g, cap2, rfl, hown2, hb2⟩)
  have hb3 := below_on hb hbs hb2
  have hbs3 := hb3.size
  have hgl : g < w2.heap.size := by
    obtain ⟨g', cap', hv', _, hlt'⟩ := hown2.form (by omega)
    injection hv' with e1
    injection e1 with e1
    injection e1 with e1
    omega
  have hopsw : OpsAt w2 w2.heap.size A' ops := (hopsv.keep hb2).more hb2.size
  have hsrc : ∀ w3, Below w2.heap.size w2 w3 → ∀ k, k < ops.length + 1 → ∀ j v, (rowCells (stAt size ops k))[j]? = some v → w3.cell? ⟨g, k * 11 + j, none⟩ = some v :=
    fun w3 hb4 k hk j v hv => (hb4.cell (p := ⟨g, _, none⟩) hgl).trans (out_at hown2 rfl (k := k) (j := j) (by omega) hv)
  have Hsrc := Lib.hid hsrc
  have Hopsw := Lib.hid hopsw
  clear hsrc hown2 hb2 hb hopsv hopsw Hrun Htold Hops
  go_wp2_with fail
  go_loopg [37] ops.length (fun m i wr => ∃ k : Nat, k ≤ ops.length ∧ m = ops.length - k ∧ i = .int .i64 k ∧ Below w2.heap.size w2 wr)
  case atStart => exact ⟨0, by omega, by omega, rfl, Below.refl _ _⟩
  case round =>
    obtain ⟨k, hk, hn, rfl, hb⟩ := hrel
    have hbs' := hb.size
    have lg : g < wr.heap.size := by omega
    have Hn := Lib.hid hn
    clear hn
    by_cases hlt : k < ops.length
    · obtain ⟨b, off, rfl, hbB, hc⟩ := Hopsw.out (by omega)
      obtain ⟨o, ho⟩ : ∃ o, ops[k] = o := ⟨_, rfl⟩
      have x0 : wr.cell? ⟨b, off + k * 12, none⟩ = some (.int .i64 o.kind) := (hb.cell (p := ⟨b, _, none⟩) hbB).trans (hc k hlt 0 _ (by rw [ho]; rfl))
      have x1 : wr.cell? ⟨b, off + k * 12 + 1, none⟩ = some (.int .i64 o.space) := (hb.cell (p := ⟨b, _, none⟩) hbB).trans (hc k hlt 1 _ (by rw [ho]; rfl))
      have x2 : wr.cell? ⟨b, off + k * 12 + 2, none⟩ = some (.int .i64 o.now) := (hb.cell (p := ⟨b, _, none⟩) hbB).trans (hc k hlt 2 _ (by rw [ho]; rfl))
      have x3 : wr.cell? ⟨b, off + k * 12 + 3, none⟩ = some (.int .i64 o.time) := (hb.cell (p := ⟨b, _, none⟩) hbB).trans (hc k hlt 3 _ (by rw [ho]; rfl))
      have x4 : wr.cell? ⟨b, off + k * 12 + 4, none⟩ = some (.int .i64 o.num) := (hb.cell (p := ⟨b, _, none⟩) hbB).trans (hc k hlt 4 _ (by rw [ho]; rfl))
      have x5 : wr.cell? ⟨b, off + k * 12 + 5, none⟩ = some (.int .i64 o.size) := (hb.cell (p := ⟨b, _, none⟩) hbB).trans (hc k hlt 5 _ (by rw [ho]; rfl))
      have x6 : wr.cell? ⟨b, off + k * 12 + 6, none⟩ = some (.bool o.el) := (hb.cell (p := ⟨b, _, none⟩) hbB).trans (hc k hlt 6 _ (by rw [ho]; rfl))
      have x7 : wr.cell? ⟨b, off + k * 12 + 7, none⟩ = some (.bool o.inf) := (hb.cell (p := ⟨b, _, none⟩) hbB).trans (hc k hlt 7 _ (by rw [ho]; rfl))
      have x8 : wr.cell? ⟨b, off + k * 12 + 8, none⟩ = some (.bool o.v) := (hb.cell (p := ⟨b, _, none⟩) hbB).trans (hc k hlt 8 _ (by rw [ho]; rfl))
      have x9 : wr.cell? ⟨b, off + k * 12 + 9, none⟩ = some (.int .i64 o.latest) := (hb.cell (p := ⟨b, _, none⟩) hbB).trans (hc k hlt 9 _ (by rw [ho]; rfl))
      have x10 : wr.cell? ⟨b, off + k * 12 + 10, none⟩ = some (.int .i64 o.delay) := (hb.cell (p := ⟨b, _, none⟩) hbB).trans (hc k hlt 10 _ (by rw [ho]; rfl))
      have x11 : wr.cell? ⟨b, off + k * 12 + 11, none⟩ = some (.int .i64 o.limit) := (hb.cell (p := ⟨b, _, none⟩) hbB).trans (hc k hlt 11 _ (by rw [ho]; rfl))
      obtain ⟨yv0, ye0⟩ : ∃ v, (stAt size ops (k)).c.window = v := ⟨_, rfl⟩
      have y0 : wr.cell? ⟨g, k * 11, none⟩ = some (.int .i64 yv0) := Hsrc.out wr hb (k) (by omega) 0 _ (by rw [← ye0]; rfl)
      obtain ⟨yv1, ye1⟩ : ∃ v, (stAt size ops (k)).c.flight = v := ⟨_, rfl⟩
      have y1 : wr.cell? ⟨g, k * 11 + 1, none⟩ = some (.int .i64 yv1) := Hsrc.out wr hb (k) (by omega) 1 _ (by rw [← ye1]; rfl)
      obtain ⟨yv2, ye2⟩ : ∃ v, (stAt size ops (k)).c.thresh = v := ⟨_, rfl⟩
      have y2 : wr.cell? ⟨g, k * 11 + 2, none⟩ = some (.int .i64 yv2) := Hsrc.out wr hb (k) (by omega) 2 _ (by rw [← ye2]; rfl)
      obtain ⟨yv3, ye3⟩ : ∃ v, (stAt size ops (k)).c.pend = v := ⟨_, rfl⟩
      have y3 : wr.cell? ⟨g, k * 11 + 3, none⟩ = some (.int .i64 yv3) := Hsrc.out wr hb (k) (by omega) 3 _ (by rw [← ye3]; rfl)
      obtain ⟨yv4, ye4⟩ : ∃ v, ((stAt size ops (k)).c.one || decide ((stAt size ops (k)).c.flight + (stAt size ops (k)).c.size ≤ (stAt size ops (k)).c.window)) = v := ⟨_, rfl⟩
      have y4 : wr.cell? ⟨g, k * 11 + 4, none⟩ = some (.bool yv4) := Hsrc.out wr hb (k) (by omega) 4 _ (by rw [← ye4]; rfl)
      obtain ⟨yv5, ye5⟩ : ∃ v, (stAt size ops (k)).c.one = v := ⟨_, rfl⟩
      have y5 : wr.cell? ⟨g, k * 11 + 5, none⟩ = some (.bool yv5) := Hsrc.out wr hb (k) (by omega) 5 _ (by rw [← ye5]; rfl)
      obtain ⟨yv6, ye6⟩ : ∃ v, (stAt size ops (k)).c.inr = v := ⟨_, rfl⟩
      have y6 : wr.cell? ⟨g, k * 11 + 6, none⟩ = some (.bool yv6) := Hsrc.out wr hb (k) (by omega) 6 _ (by rw [← ye6]; rfl)
      obtain ⟨yv7, ye7⟩ : ∃ v, stateBytes (stAt size ops (k)).c = v := ⟨_, rfl⟩
      have y7 : wr.cell? ⟨g, k * 11 + 7, none⟩ = some (.string yv7) := Hsrc.out wr hb (k) (by omega) 7 _ (by rw [← ye7]; rfl)
      obtain ⟨yv8, ye8⟩ : ∃ v, (stAt size ops (k)).r.least = v := ⟨_, rfl⟩
      have y8 : wr.cell? ⟨g, k * 11 + 8, none⟩ = some (.int .i64 yv8) := Hsrc.out wr hb (k) (by omega) 8 _ (by rw [← ye8]; rfl)
      obtain ⟨yv9, ye9⟩ : ∃ v, (stAt size ops (k)).r.smooth = v := ⟨_, rfl⟩
      have y9 : wr.cell? ⟨g, k * 11 + 9, none⟩ = some (.int .i64 yv9) := Hsrc.out wr hb (k) (by omega) 9 _ (by rw [← ye9]; rfl)
      obtain ⟨yv10, ye10⟩ : ∃ v, (stAt size ops (k)).r.dev = v := ⟨_, rfl⟩
      have y10 : wr.cell? ⟨g, k * 11 + 10, none⟩ = some (.int .i64 yv10) := Hsrc.out wr hb (k) (by omega) 10 _ (by rw [← ye10]; rfl)
      obtain ⟨zv0, ze0⟩ : ∃ v, (stAt size ops (k + 1)).c.window = v := ⟨_, rfl⟩
      have z0 : wr.cell? ⟨g, (k + 1) * 11, none⟩ = some (.int .i64 zv0) := Hsrc.out wr hb (k + 1) (by omega) 0 _ (by rw [← ze0]; rfl)
      obtain ⟨zv1, ze1⟩ : ∃ v, (stAt size ops (k + 1)).c.flight = v := ⟨_, rfl⟩
      have z1 : wr.cell? ⟨g, (k + 1) * 11 + 1, none⟩ = some (.int .i64 zv1) := Hsrc.out wr hb (k + 1) (by omega) 1 _ (by rw [← ze1]; rfl)
      obtain ⟨zv2, ze2⟩ : ∃ v, (stAt size ops (k + 1)).c.thresh = v := ⟨_, rfl⟩
      have z2 : wr.cell? ⟨g, (k + 1) * 11 + 2, none⟩ = some (.int .i64 zv2) := Hsrc.out wr hb (k + 1) (by omega) 2 _ (by rw [← ze2]; rfl)
      obtain ⟨zv3, ze3⟩ : ∃ v, (stAt size ops (k + 1)).c.pend = v := ⟨_, rfl⟩
      have z3 : wr.cell? ⟨g, (k + 1) * 11 + 3, none⟩ = some (.int .i64 zv3) := Hsrc.out wr hb (k + 1) (by omega) 3 _ (by rw [← ze3]; rfl)
      obtain ⟨zv4, ze4⟩ : ∃ v, ((stAt size ops (k + 1)).c.one || decide ((stAt size ops (k + 1)).c.flight + (stAt size ops (k + 1)).c.size ≤ (stAt size ops (k + 1)).c.window)) = v := ⟨_, rfl⟩
      have z4 : wr.cell? ⟨g, (k + 1) * 11 + 4, none⟩ = some (.bool zv4) := Hsrc.out wr hb (k + 1) (by omega) 4 _ (by rw [← ze4]; rfl)
      obtain ⟨zv5, ze5⟩ : ∃ v, (stAt size ops (k + 1)).c.one = v := ⟨_, rfl⟩
      have z5 : wr.cell? ⟨g, (k + 1) * 11 + 5, none⟩ = some (.bool zv5) := Hsrc.out wr hb (k + 1) (by omega) 5 _ (by rw [← ze5]; rfl)
      obtain ⟨zv6, ze6⟩ : ∃ v, (stAt size ops (k + 1)).c.inr = v := ⟨_, rfl⟩
      have z6 : wr.cell? ⟨g, (k + 1) * 11 + 6, none⟩ = some (.bool zv6) := Hsrc.out wr hb (k + 1) (by omega) 6 _ (by rw [← ze6]; rfl)
      obtain ⟨zv7, ze7⟩ : ∃ v, stateBytes (stAt size ops (k + 1)).c = v := ⟨_, rfl⟩
      have z7 : wr.cell? ⟨g, (k + 1) * 11 + 7, none⟩ = some (.string zv7) := Hsrc.out wr hb (k + 1) (by omega) 7 _ (by rw [← ze7]; rfl)
      obtain ⟨zv8, ze8⟩ : ∃ v, (stAt size ops (k + 1)).r.least = v := ⟨_, rfl⟩
      have z8 : wr.cell? ⟨g, (k + 1) * 11 + 8, none⟩ = some (.int .i64 zv8) := Hsrc.out wr hb (k + 1) (by omega) 8 _ (by rw [← ze8]; rfl)
      obtain ⟨zv9, ze9⟩ : ∃ v, (stAt size ops (k + 1)).r.smooth = v := ⟨_, rfl⟩
      have z9 : wr.cell? ⟨g, (k + 1) * 11 + 9, none⟩ = some (.int .i64 zv9) := Hsrc.out wr hb (k + 1) (by omega) 9 _ (by rw [← ze9]; rfl)
      obtain ⟨zv10, ze10⟩ : ∃ v, (stAt size ops (k + 1)).r.dev = v := ⟨_, rfl⟩
      have z10 : wr.cell? ⟨g, (k + 1) * 11 + 10, none⟩ = some (.int .i64 zv10) := Hsrc.out wr hb (k + 1) (by omega) 10 _ (by rw [← ze10]; rfl)
      have Hst := Lib.hid (stAt_succ size ops hlt)
      have Hto := Lib.hid (Hall.out _ (List.getElem_mem hlt))
      rw [ho] at Hst Hto
      clear ho hc
      have ik : (k : Int) < (ops.length : Int) + 1 := by omega
      have ik2 : (k : Int) + 1 < (ops.length : Int) + 1 := by omega
      have hwk : IntKind.i64.wrap ((k : Int) + 1) = (k : Int) + 1 := IntWalk.i64_in _ (by omega)
      have hnk : ((k : Int) + 1).toNat = k + 1 := by omega
      have ik4 : (0 : Int) ≤ (k : Int) + 1 := by omega
      have ik3 : (k : Int) < (ops.length : Int) := by omega
      have hbA : Below wr.heap.size wr (wr.alloc (.cells (opVals o).toArray 34)) := (Below.refl _ _).alloc (Nat.le_refl _) _
      go_wp2_with fail
      refine wp_forget (fun w' => Blk w' wr.heap.size 34 (opVals o).toArray ∧ Below w2.heap.size w2 w' ∧ wr.heap.size < w'.heap.size ∧ (w'.cell? ⟨g, k * 11, none⟩ = some (.int .i64 yv0) ∧ w'.cell? ⟨g, k * 11 + 1, none⟩ = some (.int .i64 yv1) ∧ w'.cell? ⟨g, k * 11 + 2, none⟩ = some (.int .i64 yv2) ∧ w'.cell? ⟨g, k * 11 + 3, none⟩ = some (.int .i64 yv3) ∧ w'.cell? ⟨g, k * 11 + 4, none⟩ = some (.bool yv4) ∧ w'.cell? ⟨g, k * 11 + 5, none⟩ = some (.bool yv5) ∧ w'.cell? ⟨g, k * 11 + 6, none⟩ = some (.bool yv6) ∧ w'.cell? ⟨g, k * 11 + 7, none⟩ = some (.string yv7) ∧ w'.cell? ⟨g, k * 11 + 8, none⟩ = some (.int .i64 yv8) ∧ w'.cell? ⟨g, k * 11 + 9, none⟩ = some (.int .i64 yv9) ∧ w'.cell? ⟨g, k * 11 + 10, none⟩ = some (.int .i64 yv10) ∧ w'.cell? ⟨g, (k + 1) * 11, none⟩ = some (.int .i64 zv0) ∧ w'.cell? ⟨g, (k + 1) * 11 + 1, none⟩ = some (.int .i64 zv1) ∧ w'.cell? ⟨g, (k + 1) * 11 + 2, none⟩ = some (.int .i64 zv2) ∧ w'.cell? ⟨g, (k + 1) * 11 + 3, none⟩ = some (.int .i64 zv3) ∧ w'.cell? ⟨g, (k + 1) * 11 + 4, none⟩ = some (.bool zv4) ∧ w'.cell? ⟨g, (k + 1) * 11 + 5, none⟩ = some (.bool zv5) ∧ w'.cell? ⟨g, (k + 1) * 11 + 6, none⟩ = some (.bool zv6) ∧ w'.cell? ⟨g, (k + 1) * 11 + 7, none⟩ = some (.string zv7) ∧ w'.cell? ⟨g, (k + 1) * 11 + 8, none⟩ = some (.int .i64 zv8) ∧ w'.cell? ⟨g, (k + 1) * 11 + 9, none⟩ = some (.int .i64 zv9) ∧ w'.cell? ⟨g, (k + 1) * 11 + 10, none⟩ = some (.int .i64 zv10))) ⟨Blk.new wr 34 _, hb.alloc hbs' _, by simp, (hbA.cell (p := ⟨g, _, none⟩) lg).trans y0, (hbA.cell (p := ⟨g, _, none⟩) lg).trans y1, (hbA.cell (p := ⟨g, _, none⟩) lg).trans y2, (hbA.cell (p := ⟨g, _, none⟩) lg).trans y3, (hbA.cell (p := ⟨g, _, none⟩) lg).trans y4, (hbA.cell (p := ⟨g, _, none⟩) lg).trans y5, (hbA.cell (p := ⟨g, _, none⟩) lg).trans y6, (hbA.cell (p := ⟨g, _, none⟩) lg).trans y7, (hbA.cell (p := ⟨g, _, none⟩) lg).trans y8, (hbA.cell (p := ⟨g, _, none⟩) lg).trans y9, (hbA.cell (p := ⟨g, _, none⟩) lg).trans y10, (hbA.cell (p := ⟨g, _, none⟩) lg).trans z0, (hbA.cell (p := ⟨g, _, none⟩) lg).trans z1, (hbA.cell (p := ⟨g, _, none⟩) lg).trans z2, (hbA.cell (p := ⟨g, _, none⟩) lg).trans z3, (hbA.cell (p := ⟨g, _, none⟩) lg).trans z4, (hbA.cell (p := ⟨g, _, none⟩) lg).trans z5, (hbA.cell (p := ⟨g, _, none⟩) lg).trans z6, (hbA.cell (p := ⟨g, _, none⟩) lg).trans z7, (hbA.cell (p := ⟨g, _, none⟩) lg).trans z8, (hbA.cell (p := ⟨g, _, none⟩) lg).trans z9, (hbA.cell (p := ⟨g, _, none⟩) lg).trans z10⟩ ?_
      rintro W ⟨hbo, hbW, lW, y0, y1, y2, y3, y4, y5, y6, y7, y8, y9, y10, z0, z1, z2, z3, z4, z5, z6, z7, z8, z9, z10⟩
      have hbWs := hbW.size
      have lgW : g < W.heap.size := by omega
      have c0 : W.cell? ⟨wr.heap.size, 0, none⟩ = some (.int .i64 o.kind) := hbo.cell 0
      have Hb := Lib.hid hbW
      have hbd := (Hinv.out k (by omega)).2
      have hbd' := (Hinv.out (k + 1) (by omega)).2
      have hsame : o.kind ≠ 6 → zv8 = yv8 ∧ zv9 = yv9 ∧ zv10 = yv10 := by
        intro h6
        have h := r_other hbd (invT_at size ops Hall.out k (by omega)) (Hto.out) h6
        rw [← Hst.out] at h
        rw [← ze8, ← ze9, ← ze10, ← ye8, ← ye9, ← ye10, h]
        exact ⟨rfl, rfl, rfl⟩
      have hsmp : o.kind = 6 → (stAt size ops (k + 1)).r = sampleR (stAt size ops k).r (tm o.now) o.v o.latest o.delay o.limit := by
        intro h6
        rw [Hst.out]
        exact step_sample h6
      have b8 : -1 ≤ yv8 ∧ yv8 ≤ 1099511627776 := by have := hbd.l0; have := hbd.l1; omega
      have b9 : 0 ≤ yv9 ∧ yv9 ≤ 1099511627776 := by have := hbd.s0; have := hbd.s1; omega
      have bz9 : 0 ≤ zv9 ∧ zv9 ≤ 1099511627776 := by have := hbd'.s0; have := hbd'.s1; omega
      have hneg : o.kind = 6 → yv8 < 0 → zv8 = o.latest ∧ zv9 = o.latest ∧ zv10 = o.latest / 2 := by
        intro h6 hn
        have h := hsmp h6
        unfold sampleR at h
        rw [if_pos (by omega)] at h
        rw [← ze8, ← ze9, ← ze10, h]
        exact ⟨rfl, rfl, rfl⟩
      have hpos : o.kind = 6 → ¬ yv8 < 0 → zv8 = min yv8 o.latest ∧ zv9 = (7 * yv9 + (if o.latest - (if o.v then min o.delay o.limit else o.delay) < min yv8 o.latest then o.latest else o.latest - (if o.v then min o.delay o.limit else o.delay))) / 8 := by
        intro h6 hn
        have h := hsmp h6
        unfold sampleR adjR at h
        rw [if_neg (by omega)] at h
        rw [← ze8, ← ze9, ← ye8, ← ye9, h]
        exact ⟨rfl, rfl⟩
      have bl0 := Hto.out.lat0
      have bl1 := Hto.out.lat1
      have bd0 := Hto.out.del0
      have bd1 := Hto.out.del1
      have bi0 := Hto.out.lim0
      have bi1 := Hto.out.lim1
      obtain ⟨b81, b82⟩ := b8
      obtain ⟨b91, b92⟩ := b9
      obtain ⟨bz91, bz92⟩ := bz9
      clear hbW hbd hbd' hsmp ye0 ye1 ye2 ye3 ye4 ye5 ye6 ye7 ye8 ye9 ye10 ze0 ze1 ze2 ze3 ze4 ze5 ze6 ze7 ze8 ze9 ze10
      have c8 : W.cell? ⟨wr.heap.size, 8, none⟩ = some (.bool o.v) := hbo.cell 8
      have c9 : W.cell? ⟨wr.heap.size, 9, none⟩ = some (.int .i64 o.latest) := hbo.cell 9
      have c10 : W.cell? ⟨wr.heap.size, 10, none⟩ = some (.int .i64 o.delay) := hbo.cell 10
      have c11 : W.cell? ⟨wr.heap.size, 11, none⟩ = some (.int .i64 o.limit) := hbo.cell 11
      generalize hlat : o.latest = lat at *
      generalize hdel : o.delay = del at *
      generalize hlim : o.limit = lim at *
      clear hlat hdel hlim
      have Hsame := Lib.hid hsame
      have Hneg := Lib.hid hneg
      have Hpos := Lib.hid hpos
      clear hsame hneg hpos
      by_cases k6 : o.kind = 6
      · by_cases hn : yv8 < 0
        · obtain ⟨rfl, rfl, rfl⟩ := Hneg.out k6 hn
          rw [k6] at c0
          clear k6 Hneg Hpos Hsame
          have e1 : decide (yv8 < 0) = true := by simpa using hn
          go_region
          all_goals
            go_wp2_with fail
            go_roundg (gk - 1)
            case measure => have := Hn.out; omega
            case rel => exact ⟨k + 1, by omega, by have := Hn.out; omega, by go_num, by first | exact below_drewN (below_twoS Hb.out hbWs _ _).drew _ | exact (below_drewN (below_twoS Hb.out hbWs _ _) _).drew | exact below_drewN (below_drewN (below_twoS Hb.out hbWs _ _) _) _ | exact below_drewN (below_twoS Hb.out hbWs _ _) _⟩
        · obtain ⟨rfl, hz9⟩ := Hpos.out k6 hn
          rw [k6] at c0
          clear k6 Hneg Hpos Hsame
          have e1 : decide (yv8 < 0) = false := by simpa using hn
          obtain ⟨M, hM⟩ : ∃ M, min yv8 lat = M := ⟨_, rfl⟩
          have hM0 : 0 ≤ M := by omega
          have hM1 : M ≤ lat := by omega
          have HM := Lib.hid hM
          clear hM
          rcases hv : o.v with _ | _
          · rw [hv] at c8 hz9
            clear hv
            rw [HM.out] at hz9
            simp only [Bool.false_eq_true, if_false] at hz9
            by_cases hd : M + del ≤ lat
            · rw [if_neg (by omega)] at hz9
              have e2 : decide (min yv8 lat + del ≤ lat) = true := by rw [HM.out]; simpa using hd
              have e3 : decide (0 < 8 * zv9 - 7 * yv9 - (lat - del)) = false := by simp; omega
              have e5 : decide ((lat - del) < 8 * zv9 - 7 * yv9) = false := by simp; omega
              have e4 : decide (8 * zv9 - 7 * yv9 - (lat - del) ≤ -8) = false := by simp; omega
              have Hz9 := Lib.hid hz9
              clear hz9
              go_region
              all_goals
                go_wp2_with fail
                go_roundg (gk - 1)
                case measure => have := Hn.out; omega
                case rel => exact ⟨k + 1, by omega, by have := Hn.out; omega, by go_num, by first | exact below_drewN (below_twoS Hb.out hbWs _ _).drew _ | exact (below_drewN (below_twoS Hb.out hbWs _ _) _).drew | exact below_drewN (below_drewN (below_twoS Hb.out hbWs _ _) _) _ | exact below_drewN (below_twoS Hb.out hbWs _ _) _⟩
            · rw [if_pos (by omega)] at hz9
              have e2 : decide (min yv8 lat + del ≤ lat) = false := by rw [HM.out]; simp; omega
              have e3 : decide (0 < 8 * zv9 - 7 * yv9 - lat) = false := by simp; omega
              have e5 : decide (lat < 8 * zv9 - 7 * yv9) = false := by simp; omega
              have e4 : decide (8 * zv9 - 7 * yv9 - lat ≤ -8) = false := by simp; omega
              have Hz9 := Lib.hid hz9
              clear hz9
              go_region
              all_goals
                go_wp2_with fail
                go_roundg (gk - 1)
                case measure => have := Hn.out; omega
                case rel => exact ⟨k + 1, by omega, by have := Hn.out; omega, by go_num, by first | exact below_drewN (below_twoS Hb.out hbWs _ _).drew _ | exact (below_drewN (below_twoS Hb.out hbWs _ _) _).drew | exact below_drewN (below_drewN (below_twoS Hb.out hbWs _ _) _) _ | exact below_drewN (below_twoS Hb.out hbWs _ _) _⟩
          · rw [hv] at c8 hz9
            clear hv
            rw [HM.out] at hz9
            simp only [if_true] at hz9
            obtain ⟨D, hD⟩ : ∃ D, min del lim = D := ⟨_, rfl⟩
            have hD0 : 0 ≤ D := by omega
            have hD1 : D ≤ 1099511627776 := by omega
            rw [hD] at hz9
            have HD := Lib.hid hD
            clear hD
            by_cases hd : M + D ≤ lat
            · rw [if_neg (by omega)] at hz9
              have e2 : decide (min yv8 lat + min del lim ≤ lat) = true := by rw [HM.out, HD.out]; simpa using hd
              have e3 : decide (0 < 8 * zv9 - 7 * yv9 - (lat - min del lim)) = false := by rw [HD.out]; simp; omega
              have e5 : decide ((lat - min del lim) < 8 * zv9 - 7 * yv9) = false := by rw [HD.out]; simp; omega
              have e4 : decide (8 * zv9 - 7 * yv9 - (lat - min del lim) ≤ -8) = false := by rw [HD.out]; simp; omega
              have Hz9 := Lib.hid hz9
              clear hz9
              go_region
              all_goals
                go_wp2_with fail
                go_roundg (gk - 1)
                case measure => have := Hn.out; omega
                case rel => exact ⟨k + 1, by omega, by have := Hn.out; omega, by go_num, by first | exact below_drewN (below_twoS Hb.out hbWs _ _).drew _ | exact (below_drewN (below_twoS Hb.out hbWs _ _) _).drew | exact below_drewN (below_drewN (below_twoS Hb.out hbWs _ _) _) _ | exact below_drewN (below_twoS Hb.out hbWs _ _) _⟩
            · rw [if_pos (by omega)] at hz9
              have e2 : decide (min yv8 lat + min del lim ≤ lat) = false := by rw [HM.out, HD.out]; simp; omega
              have e3 : decide (0 < 8 * zv9 - 7 * yv9 - lat) = false := by simp; omega
              have e5 : decide (lat < 8 * zv9 - 7 * yv9) = false := by simp; omega
              have e4 : decide (8 * zv9 - 7 * yv9 - lat ≤ -8) = false := by simp; omega
              have Hz9 := Lib.hid hz9
              clear hz9
              go_region
              all_goals
                go_wp2_with fail
                go_roundg (gk - 1)
                case measure => have := Hn.out; omega
                case rel => exact ⟨k + 1, by omega, by have := Hn.out; omega, by go_num, by first | exact below_drewN (below_twoS Hb.out hbWs _ _).drew _ | exact (below_drewN (below_twoS Hb.out hbWs _ _) _).drew | exact below_drewN (below_drewN (below_twoS Hb.out hbWs _ _) _) _ | exact below_drewN (below_twoS Hb.out hbWs _ _) _⟩
      · obtain ⟨rfl, rfl, rfl⟩ := Hsame.out k6
        have d6 : (o.kind == 6) = false := by simpa using k6
        clear k6 Hneg Hpos Hsame
        go_region
        all_goals
          go_wp2_with fail
          go_roundg (gk - 1)
          case measure => have := Hn.out; omega
          case rel => exact ⟨k + 1, by omega, by have := Hn.out; omega, by go_num, by first | exact below_drewN (below_twoS Hb.out hbWs _ _).drew _ | exact (below_drewN (below_twoS Hb.out hbWs _ _) _).drew | exact below_drewN (below_drewN (below_twoS Hb.out hbWs _ _) _) _ | exact below_drewN (below_twoS Hb.out hbWs _ _) _⟩
    · go_wp2_with fail
      go_ret
      exact ⟨rfl, below_on hb3 hbs3 hb⟩

end Go.Proofs.Ytpaociigfbibbaa

