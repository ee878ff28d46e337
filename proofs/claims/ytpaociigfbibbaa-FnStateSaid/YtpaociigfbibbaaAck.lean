/-
  The contract of packetAcked.
-/
import Derived.Test.YtpaociigfbibbaaRtt
namespace Go.Proofs.Ytpaociigfbibbaa
open Go.RowKit
attribute [local go_sem ↓] Go.wp_at_zero Go.wp_at_succ

def ackC (c : Ctl) (size time : Int) (inf : Bool) : Ctl :=
  if inf then (if c.under then { c with flight := c.flight - size } else if time < c.recov then { c with flight := c.flight - size } else { c with flight := c.flight - size, pend := c.pend + size }) else c

set_option maxHeartbeats 400000 in
theorem packetAcked_any (g gp gr : Nat) (c : Ctl) (num size time now : Int) (el inf : Bool) (w : World) (hB : Blk w g 63 (ctlCells c)) (hP : Blk w gp 73 (packetCells num size time el inf))
    (hf0 : -4611686018427387904 ≤ c.flight) (hf1 : c.flight ≤ 4611686018427387904) (hs0 : 0 ≤ size) (hs1 : size ≤ 65535) (hp0 : 0 ≤ c.pend) (hp1 : c.pend ≤ 4611686018427387904) :
    Calls Try.prog 27 #[.pointer (some ⟨g, 0, none⟩), .agg #[.int .u64 (wl now), .int .i64 (ex now)], .pointer (some ⟨gp, 0, none⟩)] w fun e w' =>
      e = .returned (.tuple #[]) ∧ Blk w' g 63 (ctlCells (ackC c size time inf)) ∧ Only g gr w w' := by
  have c2 : w.cell? ⟨g, 2, none⟩ = some (.int .i64 c.flight) := hB.cell 2
  have c9 : w.cell? ⟨g, 9, none⟩ = some (.bool c.under) := hB.cell 9
  have p1 : w.cell? ⟨gp, 1, none⟩ = some (.int .i64 size) := hP.cell 1
  have p5 : w.cell? ⟨gp, 5, none⟩ = some (.bool inf) := hP.cell 5
  have f2 := hB.frozen 2
  have l1 := hB.lt
  have l2 := hP.lt
  have ne := hP.apart hB (by decide)
  cases inf
  · go_enter Try.func27, Try.ntmps27
    go_wp2
    refine bodyPost_ret (results_none rfl _ _ _) rfl ?_
    exact ⟨rfl, hB.alloc _, (Only.refl _ _ _).alloc _⟩
  · have hw : IntKind.i64.wrap (c.flight - size) = c.flight - size := IntWalk.i64_in _ (by omega)
    have e1 : ctlCells { c with flight := c.flight - size } = (ctlCells c).setIfInBounds 2 (.int .i64 (c.flight - size)) := by simp [ctlCells]
    have E1 := Lib.hid e1
    clear e1
    rcases h : c.under with _ | _
    · rw [h] at c9
      have Hh := Lib.hid h
      clear h
      go_enter Try.func27, Try.ntmps27
      go_wp2
      go_region
      go_wp2
      refine wp_forget (fun w' => Blk w' g 63 (ctlCells { c with flight := c.flight - size }) ∧ Blk w' gp 73 (packetCells num size time el true) ∧ Only g gr w w')
        ⟨by rw [E1.out]; exact ((hB.put 2 _).alloc _).drew, ((hP.far ne _).alloc _).drew, (((Only.refl g gr w).put 2 _).alloc _).drew⟩ ?_
      intro W hS
      obtain ⟨b1, b2, b3⟩ := hS
      clear c2 c9 p1 p5 f2
      have c2 : W.cell? ⟨g, 2, none⟩ = some (.int .i64 (c.flight - size)) := b1.cell 2
      have c4 : W.cell? ⟨g, 4, none⟩ = some (.int .u64 (wl c.recov)) := b1.cell 4
      have c5 : W.cell? ⟨g, 5, none⟩ = some (.int .i64 (ex c.recov)) := b1.cell 5
      have p2 : W.cell? ⟨gp, 2, none⟩ = some (.int .u64 (wl time)) := b2.cell 2
      have p3 : W.cell? ⟨gp, 3, none⟩ = some (.int .i64 (ex time)) := b2.cell 3
      go_region_held3 (fun w' => w'.cell? ⟨g, 4, none⟩ = some (.int .u64 (wl c.recov)) ∧ w'.cell? ⟨g, 5, none⟩ = some (.int .i64 (ex c.recov)) ∧ w'.cell? ⟨gp, 2, none⟩ = some (.int .u64 (wl time)) ∧ w'.cell? ⟨gp, 3, none⟩ = some (.int .i64 (ex time)) ∧ Blk w' g 63 (ctlCells { c with flight := c.flight - size }) ∧ Blk w' gp 73 (packetCells num size time el true) ∧ Only g gr w w')
        ((go_split_ands; (repeat' apply And.intro) <;> first | assumption | exact Blk.drew (by assumption) | exact Only.drew (by assumption) | go_keep | exact keep_drew hb (by assumption) | exact cell_later hb (by assumption) | exact Blk.later (Blk.drew (by assumption)) hb | exact Blk.later (by assumption) hb | exact Only.below (Only.drew (by assumption)) hb | exact Only.below (by assumption) hb))
        (first | (go_at_call 36; refine (before_any _ _ _).mono ?_; rintro e w1 ⟨rfl, hb⟩))
      rename_i hS
      obtain ⟨_, _, _, _, d1, d2, d3⟩ := hS
      clear b1 b2 b3 c2 c4 c5 p2 p3 hb E1 hB hP hw
      have c6 : w1.cell? ⟨g, 6, none⟩ = some (.int .i64 c.pend) := d1.cell 6
      have p1 : w1.cell? ⟨gp, 1, none⟩ = some (.int .i64 size) := d2.cell 1
      have f6 := d1.frozen 6
      by_cases ht : time < c.recov
      · go_wp2
        refine bodyPost_ret (results_none rfl _ _ _) rfl ?_
        have e : ackC c size time true = { c with flight := c.flight - size } := by simp [ackC, ht, Hh.out]
        rw [e]
        exact ⟨rfl, d1, d3⟩
      · have hw : IntKind.i64.wrap (c.pend + size) = c.pend + size := IntWalk.i64_in _ (by omega)
        go_wp2
        go_region
        go_wp2
        go_end0
        have hn : ¬ time < c.recov := by omega
        have e : ctlCells (ackC c size time true) = (ctlCells { c with flight := c.flight - size }).setIfInBounds 6 (.int .i64 (c.pend + size)) := by simp [ctlCells, ackC, hn, Hh.out]
        rw [e]
        exact ⟨rfl, (d1.put 6 _).drew, (d3.put 6 _).drew⟩
    · rw [h] at c9
      have e : ackC c size time true = { c with flight := c.flight - size } := by simp [ackC, h]
      rw [e, E1.out]
      clear e
      go_enter Try.func27, Try.ntmps27
      go_wp2
      go_region
      go_wp2
      refine bodyPost_ret (results_none rfl _ _ _) rfl ?_
      exact ⟨rfl, ((hB.put 2 _).alloc _).drew, (((Only.refl g gr w).put 2 _).alloc _).drew⟩
end Go.Proofs.Ytpaociigfbibbaa
