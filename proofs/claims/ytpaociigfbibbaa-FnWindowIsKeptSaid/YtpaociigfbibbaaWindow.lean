/-
  FnWindowIsKept: its walk.
-/
import Derived.Test.YtpaociigfbibbaaWinLaw
import Derived.Test.YtpaociigfbibbaaFirst
namespace Go.Proofs.Ytpaociigfbibbaa
open Go.RowKit

set_option maxRecDepth 100000 in
set_option maxHeartbeats 8000000 in
theorem window_walk (size : Int) (A : Option Addr) (cap : Nat) (ops : List Call) (w : World) (hops : OpsAt w w.heap.size A ops) :
    Calls Try.prog 10 #[.int .i64 size, .slice A ops.length cap] w fun e w' => e = .returned (.bool true) ∧ Below w.heap.size w w' := by
  by_cases hlen : 2147483647 < ops.length
  · have dl : decide ((2147483647 : Int) < (ops.length : Int)) = true := by simp; omega
    go_enter Try.func10, Try.ntmps10
    go_wp2_with fail
    go_ret
    exact ⟨rfl, Below.refl _ _⟩
  have dl : decide ((2147483647 : Int) < (ops.length : Int)) = false := by simp; omega
  have Htold := Lib.hid (told_any size A cap ops w hops (by omega))
  have Hops := Lib.hid hops
  have Hlen := Lib.hid hlen
  clear hops hlen
  go_enter Try.func10, Try.ntmps10
  go_wp2_with (go_at_call 12; refine Htold.out.mono ?_; rintro e w1 ⟨⟨v, rfl⟩ | ⟨A', c', rfl, hle, h0, h1, hall, hown⟩, hb⟩)
  · go_wp2_with fail
    go_ret
    exact ⟨rfl, hb⟩
  have hbs := hb.size
  have hopsv : OpsAt w1 w1.heap.size A' ops := OpsAt.of_own hown
  have hrun := run_any size A cap ops w1 ((Hops.out.keep hb).more hbs) hle h0 h1 (fun o ho => (hall o ho).good)
  have hinv := inv_at size h0 h1 ops hle (fun o ho => (hall o ho).good)
  have Hrun := Lib.hid hrun
  have Hinv := Lib.hid hinv
  have Hall := Lib.hid hall
  clear hrun hinv hall hown
  go_wp2_with (go_at_call 11; refine Hrun.out.mono ?_; rintro e w2 ⟨g, cap2, rfl, hown2, hb2⟩)
  have hb3 := below_on hb hbs hb2
  have hbs3 := hb3.size
  have hgl : g < w2.heap.size := by
    obtain ⟨g', cap', hv', _, hlt'⟩ := hown2.form (by omega)
    injection hv' with e1
    injection e1 with e1
    injection e1 with e1
    omega
  have hopsw : OpsAt w2 w2.heap.size A' ops := (hopsv.keep hb2).more hb2.size
  have hsrc : ∀ w3, Below w2.heap.size w2 w3 → ∀ k, k < ops.length + 1 → ∀ j v, (rowCells (stAt size ops k))[j]? = some v → w3.cell? ⟨g, k * 11 + j, none⟩ = some v :=
    fun w3 hb4 k hk j v hv => (hb4.cell (p := ⟨g, _, none⟩) hgl).trans (out_at hown2 rfl (k := k) (j := j) (by omega) hv)
  have Hsrc := Lib.hid hsrc
  have Hopsw := Lib.hid hopsw
  clear hsrc hown2 hb2 hb hopsv hopsw Hrun Htold Hops
  have Hwin := Lib.hid (win_at size h0 h1 ops hle Hall.out)
  go_wp2_with fail
  go_loopg [8, 35] ops.length (fun m n i wr => ∃ k : Nat, k ≤ ops.length ∧ m = ops.length - k ∧ n = .bool (lostN ops k) ∧ i = .int .i64 k ∧ Below w2.heap.size w2 wr)
  case atStart => exact ⟨0, by omega, by omega, rfl, rfl, Below.refl _ _⟩
  case round =>
    obtain ⟨k, hk, hn, rfl, rfl, hb⟩ := hrel
    have hbs' := hb.size
    have lg : g < wr.heap.size := by omega
    have Hn := Lib.hid hn
    clear hn
    by_cases hlt : k < ops.length
    · have hbd := (Hinv.out k (by omega)).1
      have hbd' := (Hinv.out (k + 1) (by omega)).1
      have hwp := hbd.wp
      have hp0 := hbd.p0
      have hw0 := hbd.w0
      have hwp' := hbd'.wp
      have hp0' := hbd'.p0
      have hw0' := hbd'.w0
      obtain ⟨hwin1, hwin2, hwin3⟩ := Hwin.out k hlt
      obtain ⟨b, off, rfl, hbB, hc⟩ := Hopsw.out (by omega)
      obtain ⟨o, ho⟩ : ∃ o, ops[k] = o := ⟨_, rfl⟩
      have hL := lostN_succ ops hlt
      rw [ho] at hwin1 hL
      have yA : wr.cell? ⟨g, k * 11, none⟩ = some (.int .i64 (stAt size ops k).c.window) := Hsrc.out wr hb k (by omega) 0 _ rfl
      have yB : wr.cell? ⟨g, (k + 1) * 11, none⟩ = some (.int .i64 (stAt size ops (k + 1)).c.window) := Hsrc.out wr hb (k + 1) (by omega) 0 _ rfl
      obtain ⟨a, ha⟩ : ∃ a, (stAt size ops k).c.window = a := ⟨_, rfl⟩
      obtain ⟨c, hcw⟩ : ∃ c, (stAt size ops (k + 1)).c.window = c := ⟨_, rfl⟩
      obtain ⟨L, hLe⟩ : ∃ L, lostN ops k = L := ⟨_, rfl⟩
      rw [ha] at yA hwin1 hwin2 hwin3 hwp hw0
      rw [hcw] at yB hwin1 hwin2 hwin3 hwp' hw0'
      rw [hLe] at hL hwin3 ⊢
      have x0 : wr.cell? ⟨b, off + k * 12, none⟩ = some (.int .i64 o.kind) := (hb.cell (p := ⟨b, _, none⟩) hbB).trans (hc k hlt 0 _ (by rw [ho]; rfl))
      have x1 : wr.cell? ⟨b, off + k * 12 + 1, none⟩ = some (.int .i64 o.space) := (hb.cell (p := ⟨b, _, none⟩) hbB).trans (hc k hlt 1 _ (by rw [ho]; rfl))
      have x2 : wr.cell? ⟨b, off + k * 12 + 2, none⟩ = some (.int .i64 o.now) := (hb.cell (p := ⟨b, _, none⟩) hbB).trans (hc k hlt 2 _ (by rw [ho]; rfl))
      have x3 : wr.cell? ⟨b, off + k * 12 + 3, none⟩ = some (.int .i64 o.time) := (hb.cell (p := ⟨b, _, none⟩) hbB).trans (hc k hlt 3 _ (by rw [ho]; rfl))
      have x4 : wr.cell? ⟨b, off + k * 12 + 4, none⟩ = some (.int .i64 o.num) := (hb.cell (p := ⟨b, _, none⟩) hbB).trans (hc k hlt 4 _ (by rw [ho]; rfl))
      have x5 : wr.cell? ⟨b, off + k * 12 + 5, none⟩ = some (.int .i64 o.size) := (hb.cell (p := ⟨b, _, none⟩) hbB).trans (hc k hlt 5 _ (by rw [ho]; rfl))
      have x6 : wr.cell? ⟨b, off + k * 12 + 6, none⟩ = some (.bool o.el) := (hb.cell (p := ⟨b, _, none⟩) hbB).trans (hc k hlt 6 _ (by rw [ho]; rfl))
      have x7 : wr.cell? ⟨b, off + k * 12 + 7, none⟩ = some (.bool o.inf) := (hb.cell (p := ⟨b, _, none⟩) hbB).trans (hc k hlt 7 _ (by rw [ho]; rfl))
      have x8 : wr.cell? ⟨b, off + k * 12 + 8, none⟩ = some (.bool o.v) := (hb.cell (p := ⟨b, _, none⟩) hbB).trans (hc k hlt 8 _ (by rw [ho]; rfl))
      have x9 : wr.cell? ⟨b, off + k * 12 + 9, none⟩ = some (.int .i64 o.latest) := (hb.cell (p := ⟨b, _, none⟩) hbB).trans (hc k hlt 9 _ (by rw [ho]; rfl))
      have x10 : wr.cell? ⟨b, off + k * 12 + 10, none⟩ = some (.int .i64 o.delay) := (hb.cell (p := ⟨b, _, none⟩) hbB).trans (hc k hlt 10 _ (by rw [ho]; rfl))
      have x11 : wr.cell? ⟨b, off + k * 12 + 11, none⟩ = some (.int .i64 o.limit) := (hb.cell (p := ⟨b, _, none⟩) hbB).trans (hc k hlt 11 _ (by rw [ho]; rfl))
      have HL := Lib.hid hL
      clear ho hc ha hcw hbd hbd' hL hLe
      have ia : -9223372036854775808 ≤ a ∧ a ≤ 9223372036854775807 := by omega
      have e1 : decide (c < 2 * size) = false := by simp; omega
      have e2 : decide (c < a / 2) = false := by simp; omega
      have hw2 : IntKind.i64.wrap (2 * size) = 2 * size := IntWalk.i64_in _ (by omega)
      clear hwp hwp' hp0 hp0'
      by_cases k4 : o.kind = 4
      · have d2 : (o.kind == 2) = false := by rw [k4]; rfl
        have d4 : (o.kind == 4) = true := by rw [k4]; rfl
        rw [k4] at x0
        have Hkd := Lib.hid k4
        clear hwin1 k4
        by_cases hlt2 : c < a
        · have hT := hwin3 hlt2
          subst hT
          have e3 : (a == c) = false := by simp; omega
          have e5 : ¬ a = c := by omega
          have e4 : decide (c < a) = true := by simpa using hlt2
          clear hlt2 hwin3 hwin2
          go_wp2_with fail
          go_quiet (fail)
          go_wp2_with fail
          go_roundg (gk - 1)
          case measure => have := Hn.out; omega
          case rel => exact ⟨k + 1, by omega, by have := Hn.out; omega, by rw [HL.out]; simp [lostAt, Hkd.out], by go_num, below_drewN (hb.alloc hbs' _) _⟩
        · have e4 : decide (c < a) = false := by simpa using hlt2
          clear hwin3 hwin2
          by_cases he : a = c
          · subst he
            clear hlt2
            go_wp2_with fail
            go_quiet (fail)
            go_wp2_with fail
            go_roundg (gk - 1)
            case measure => have := Hn.out; omega
            case rel => exact ⟨k + 1, by omega, by have := Hn.out; omega, by rw [HL.out]; simp [lostAt, Hkd.out], by go_num, below_drewN (hb.alloc hbs' _) _⟩
          · have e3 : (a == c) = false := by simpa using he
            clear hlt2
            go_wp2_with fail
            go_quiet (fail)
            go_wp2_with fail
            go_roundg (gk - 1)
            case measure => have := Hn.out; omega
            case rel => exact ⟨k + 1, by omega, by have := Hn.out; omega, by rw [HL.out]; simp [lostAt, Hkd.out], by go_num, below_drewN (hb.alloc hbs' _) _⟩
      · have hac := hwin1 k4
        subst hac
        clear hwin1 hwin2 hwin3
        have d4 : (o.kind == 4) = false := by simpa using k4
        by_cases k2 : o.kind = 2
        · have d2 : (o.kind == 2) = true := by rw [k2]; rfl
          have Hkd := Lib.hid k2
          clear k2 k4
          go_wp2_with fail
          go_quiet (fail)
          go_wp2_with fail
          go_roundg (gk - 1)
          case measure => have := Hn.out; omega
          case rel => exact ⟨k + 1, by omega, by have := Hn.out; omega, by rw [HL.out]; simp [lostAt, Hkd.out], by go_num, below_drewN (hb.alloc hbs' _) _⟩
        · have d2 : (o.kind == 2) = false := by simpa using k2
          have Hkd := Lib.hid (show (o.kind = 2) = False ∧ (o.kind = 4) = False from ⟨eq_false k2, eq_false k4⟩)
          clear k2 k4
          go_wp2_with fail
          go_quiet (fail)
          go_wp2_with fail
          go_roundg (gk - 1)
          case measure => have := Hn.out; omega
          case rel => exact ⟨k + 1, by omega, by have := Hn.out; omega, by rw [HL.out]; simp [lostAt, Hkd.out], by go_num, below_drewN (hb.alloc hbs' _) _⟩
    · have hlk : k = ops.length := by omega
      have hz := Hsrc.out wr hb 0 (by omega) 0 _ rfl
      have h00 : 2 * size ≤ (stAt size ops 0).c.window := (Hinv.out 0 (by omega)).1.w0
      obtain ⟨a, ha⟩ : ∃ a, (stAt size ops 0).c.window = a := ⟨_, rfl⟩
      rw [ha] at hz h00
      clear ha
      have hz' : wr.cell? ⟨g, 0, none⟩ = some (.int .i64 a) := by simpa using hz
      clear hz
      go_wp2_with fail
      go_ret
      exact ⟨rfl, below_on hb3 hbs3 hb⟩

end Go.Proofs.Ytpaociigfbibbaa

