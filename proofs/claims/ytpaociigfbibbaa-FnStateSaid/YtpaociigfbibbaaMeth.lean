/-
  Contracts of the controller's short methods.
-/
import Derived.Test.YtpaociigfbibbaaModel
import Derived.Test.YtpaociigfbibbaaSub
import Derived.RegionTactic
import Derived.ChangeAlike
import Derived.BigRegion
import Derived.Deep.RegionHeld3
import Derived.Deep.DrawnRows
import Derived.Deep.QuietTactic
import Derived.BigQuiet
namespace Go.Proofs.Ytpaociigfbibbaa
open Go.RowKit

def sentC (c : Ctl) (size : Int) (inf : Bool) : Ctl := if inf then { c with flight := c.flight + size, one := false } else c

set_option maxHeartbeats 400000 in
theorem packetSent_any (g gp gr : Nat) (c : Ctl) (num size time now : Int) (el inf : Bool) (k : Int) (w : World) (hB : Blk w g 63 (ctlCells c)) (hP : Blk w gp 73 (packetCells num size time el inf))
    (hf0 : -4611686018427387904 ≤ c.flight) (hf1 : c.flight ≤ 4611686018427387904) (hs0 : 0 ≤ size) (hs1 : size ≤ 65535) :
    Calls Try.prog 26 #[.pointer (some ⟨g, 0, none⟩), .agg #[.int .u64 (wl now), .int .i64 (ex now)], .int .u8 k, .pointer (some ⟨gp, 0, none⟩)] w fun e w' =>
      e = .returned (.tuple #[]) ∧ Blk w' g 63 (ctlCells (sentC c size inf)) ∧ Only g gr w w' := by
  have c2 : w.cell? ⟨g, 2, none⟩ = some (.int .i64 c.flight) := hB.cell 2
  have c7 : w.cell? ⟨g, 7, none⟩ = some (.bool c.one) := hB.cell 7
  have p1 : w.cell? ⟨gp, 1, none⟩ = some (.int .i64 size) := hP.cell 1
  have p5 : w.cell? ⟨gp, 5, none⟩ = some (.bool inf) := hP.cell 5
  have f2 := hB.frozen 2
  have f7 := hB.frozen 7
  have l1 := hB.lt
  have l2 := hP.lt
  have ne := hP.apart hB (by decide)
  cases inf
  · go_enter Try.func26, Try.ntmps26
    go_wp2
    refine bodyPost_ret (results_none rfl _ _ _) rfl ?_
    exact ⟨rfl, hB.alloc _, (Only.refl _ _ _).alloc _⟩
  · have hw : IntKind.i64.wrap (c.flight + size) = c.flight + size := IntWalk.i64_in _ (by omega)
    rcases h1 : c.one with _ | _
    · rw [h1] at c7
      go_enter Try.func26, Try.ntmps26
      go_wp2
      go_region
      go_wp2
      go_end0
      have e : ctlCells (sentC c size true) = (ctlCells c).setIfInBounds 2 (.int .i64 (c.flight + size)) := by simp [ctlCells, sentC, h1]
      rw [e]
      exact ⟨rfl, ((hB.put 2 _).alloc _).drew, (((Only.refl g gr w).put 2 _).alloc _).drew⟩
    · rw [h1] at c7
      go_enter Try.func26, Try.ntmps26
      go_wp2
      go_region
      go_wp2
      go_end0
      have e : ctlCells (sentC c size true) = ((ctlCells c).setIfInBounds 2 (.int .i64 (c.flight + size))).setIfInBounds 7 (.bool false) := by simp [ctlCells, sentC]
      rw [e]
      exact ⟨rfl, (((hB.put 2 _).put 7 _).alloc _).drew, ((((Only.refl g gr w).put 2 _).put 7 _).alloc _).drew⟩

def discC (c : Ctl) (size : Int) (inf : Bool) : Ctl := if inf then { c with flight := c.flight - size } else c

set_option maxHeartbeats 400000 in
theorem packetDiscarded_any (g gp gr : Nat) (c : Ctl) (num size time : Int) (el inf : Bool) (w : World) (hB : Blk w g 63 (ctlCells c)) (hP : Blk w gp 73 (packetCells num size time el inf))
    (hf0 : -4611686018427387904 ≤ c.flight) (hf1 : c.flight ≤ 4611686018427387904) (hs0 : 0 ≤ size) (hs1 : size ≤ 65535) :
    Calls Try.prog 29 #[.pointer (some ⟨g, 0, none⟩), .pointer (some ⟨gp, 0, none⟩)] w fun e w' =>
      e = .returned (.tuple #[]) ∧ Blk w' g 63 (ctlCells (discC c size inf)) ∧ Only g gr w w' := by
  have c2 : w.cell? ⟨g, 2, none⟩ = some (.int .i64 c.flight) := hB.cell 2
  have p1 : w.cell? ⟨gp, 1, none⟩ = some (.int .i64 size) := hP.cell 1
  have p5 : w.cell? ⟨gp, 5, none⟩ = some (.bool inf) := hP.cell 5
  have f2 := hB.frozen 2
  have l1 := hB.lt
  have l2 := hP.lt
  have ne := hP.apart hB (by decide)
  cases inf
  · go_enter Try.func29, Try.ntmps29
    go_wp2
    go_end0
    exact ⟨rfl, hB, Only.refl _ _ _⟩
  · have hw : IntKind.i64.wrap (c.flight - size) = c.flight - size := IntWalk.i64_in _ (by omega)
    go_enter Try.func29, Try.ntmps29
    go_wp2
    go_region
    go_wp2
    go_end0
    have e : ctlCells (discC c size true) = (ctlCells c).setIfInBounds 2 (.int .i64 (c.flight - size)) := by simp [ctlCells, discC]
    rw [e]
    exact ⟨rfl, (hB.put 2 _).drew, ((Only.refl g gr w).put 2 _).drew⟩

set_option maxHeartbeats 400000 in
theorem setUnder_any (g gr : Nat) (c : Ctl) (v : Bool) (w : World) (hB : Blk w g 63 (ctlCells c)) :
    Calls Try.prog 31 #[.pointer (some ⟨g, 0, none⟩), .bool v] w fun e w' =>
      e = .returned (.tuple #[]) ∧ Blk w' g 63 (ctlCells { c with under := v }) ∧ Only g gr w w' := by
  have c9 : w.cell? ⟨g, 9, none⟩ = some (.bool c.under) := hB.cell 9
  have f9 := hB.frozen 9
  rcases h : c.under with _ | _ <;> rcases v with _ | _ <;> rw [h] at c9
  · have e : ctlCells { c with under := false } = ctlCells c := by simp [ctlCells, h]
    rw [e]
    clear e
    go_enter Try.func31, Try.ntmps31
    go_wp2
    refine bodyPost_ret (results_none rfl _ _ _) rfl ?_
    exact ⟨rfl, hB, Only.refl g gr w⟩
  · have e : ctlCells { c with under := true } = (ctlCells c).setIfInBounds 9 (.bool true) := by simp [ctlCells]
    rw [e]
    clear e
    go_enter Try.func31, Try.ntmps31
    go_wp2
    go_end0
    exact ⟨rfl, hB.put 9 _, (Only.refl g gr w).put 9 _⟩
  · have e : ctlCells { c with under := false } = (ctlCells c).setIfInBounds 9 (.bool false) := by simp [ctlCells]
    rw [e]
    clear e
    go_enter Try.func31, Try.ntmps31
    go_wp2
    go_end0
    exact ⟨rfl, hB.put 9 _, (Only.refl g gr w).put 9 _⟩
  · have e : ctlCells { c with under := true } = ctlCells c := by simp [ctlCells, h]
    rw [e]
    clear e
    go_enter Try.func31, Try.ntmps31
    go_wp2
    refine bodyPost_ret (results_none rfl _ _ _) rfl ?_
    exact ⟨rfl, hB, Only.refl g gr w⟩

set_option maxHeartbeats 400000 in
theorem minWindow_any (g : Nat) (c : Ctl) (w : World) (hB : Blk w g 63 (ctlCells c)) (h0 : 0 ≤ c.size) (h1 : c.size ≤ 65535) :
    Calls Try.prog 33 #[.pointer (some ⟨g, 0, none⟩)] w fun e w' => e = .returned (.int .i64 (2 * c.size)) ∧ w = w' := by
  have c0 : w.cell? ⟨g, 0, none⟩ = some (.int .i64 c.size) := hB.cell 0
  go_enter Try.func33, Try.ntmps33
  go_wp2
  go_ret
  exact ⟨rfl, rfl⟩

set_option maxHeartbeats 400000 in
theorem canSend_any (g : Nat) (c : Ctl) (w : World) (hB : Blk w g 63 (ctlCells c)) (h0 : 0 ≤ c.size) (h1 : c.size ≤ 65535)
    (hf0 : -4611686018427387904 ≤ c.flight) (hf1 : c.flight ≤ 4611686018427387904) :
    Calls Try.prog 22 #[.pointer (some ⟨g, 0, none⟩)] w fun e w' => e = .returned (.bool (c.one || decide (c.flight + c.size ≤ c.window))) ∧ ∃ n, w' = w.drewN n := by
  have c0 : w.cell? ⟨g, 0, none⟩ = some (.int .i64 c.size) := hB.cell 0
  have c1 : w.cell? ⟨g, 1, none⟩ = some (.int .i64 c.window) := hB.cell 1
  have c2 : w.cell? ⟨g, 2, none⟩ = some (.int .i64 c.flight) := hB.cell 2
  have c7 : w.cell? ⟨g, 7, none⟩ = some (.bool c.one) := hB.cell 7
  have hw : IntKind.i64.wrap (c.flight + c.size) = c.flight + c.size := IntWalk.i64_in _ (by omega)
  rcases h : c.one with _ | _
  · rw [h] at c7
    go_enter Try.func22, Try.ntmps22
    go_wp2
    go_quiet (fail)
    go_wp2
    go_ret
    exact ⟨rfl, _, rfl⟩
  · rw [h] at c7
    go_enter Try.func22, Try.ntmps22
    go_wp2
    go_ret
    exact ⟨rfl, 0, rfl⟩

def stateBytes (c : Ctl) : ByteArray :=
  if c.inr then ⟨#[114, 101, 99, 111, 118, 101, 114, 121]⟩
  else if c.under then ⟨#[97, 112, 112, 108, 105, 99, 97, 116, 105, 111, 110, 95, 108, 105, 109, 105, 116, 101, 100]⟩
  else if c.window < c.thresh then ⟨#[115, 108, 111, 119, 95, 115, 116, 97, 114, 116]⟩
  else ⟨#[99, 111, 110, 103, 101, 115, 116, 105, 111, 110, 95, 97, 118, 111, 105, 100, 97, 110, 99, 101]⟩

set_option maxHeartbeats 400000 in
theorem state_any (g : Nat) (c : Ctl) (w : World) (hB : Blk w g 63 (ctlCells c)) :
    Calls Try.prog 23 #[.pointer (some ⟨g, 0, none⟩)] w fun e w' => e = .returned (.string (stateBytes c)) ∧ ∃ n, w' = w.drewN n := by
  have c1 : w.cell? ⟨g, 1, none⟩ = some (.int .i64 c.window) := hB.cell 1
  have c3 : w.cell? ⟨g, 3, none⟩ = some (.int .i64 c.thresh) := hB.cell 3
  have c8 : w.cell? ⟨g, 8, none⟩ = some (.bool c.inr) := hB.cell 8
  have c9 : w.cell? ⟨g, 9, none⟩ = some (.bool c.under) := hB.cell 9
  rcases h : c.inr with _ | _
  · rcases h2 : c.under with _ | _
    · by_cases h3 : c.window < c.thresh
      · have e : stateBytes c = ⟨#[115, 108, 111, 119, 95, 115, 116, 97, 114, 116]⟩ := by simp [stateBytes, h, h2, h3]
        rw [e]
        rw [h] at c8
        rw [h2] at c9
        clear e
        go_enter Try.func23, Try.ntmps23
        go_wp2
        go_quiet (fail)
        go_wp2
        go_ret
        exact ⟨rfl, _, rfl⟩
      · have e : stateBytes c = ⟨#[99, 111, 110, 103, 101, 115, 116, 105, 111, 110, 95, 97, 118, 111, 105, 100, 97, 110, 99, 101]⟩ := by simp [stateBytes, h, h2, h3]
        rw [e]
        rw [h] at c8
        rw [h2] at c9
        clear e
        go_enter Try.func23, Try.ntmps23
        go_wp2
        go_quiet (fail)
        go_wp2
        go_ret
        exact ⟨rfl, _, rfl⟩
    · have e : stateBytes c = ⟨#[97, 112, 112, 108, 105, 99, 97, 116, 105, 111, 110, 95, 108, 105, 109, 105, 116, 101, 100]⟩ := by simp [stateBytes, h, h2]
      rw [e]
      rw [h] at c8
      rw [h2] at c9
      clear e
      go_enter Try.func23, Try.ntmps23
      go_wp2
      go_ret
      exact ⟨rfl, 0, rfl⟩
  · have e : stateBytes c = ⟨#[114, 101, 99, 111, 118, 101, 114, 121]⟩ := by simp [stateBytes, h]
    rw [e]
    rw [h] at c8
    clear e
    go_enter Try.func23, Try.ntmps23
    go_wp2
    go_ret
    exact ⟨rfl, 0, rfl⟩
end Go.Proofs.Ytpaociigfbibbaa
