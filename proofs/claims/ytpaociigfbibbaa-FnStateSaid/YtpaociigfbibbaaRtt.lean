/-
  Contracts of the estimates' methods.
-/
import Derived.Test.YtpaociigfbibbaaMeth
namespace Go.Proofs.Ytpaociigfbibbaa
open Go.RowKit

def adjR (r : Rtt) (v : Bool) (latest delay limit : Int) : Int :=
  if latest - (if v then min delay limit else delay) < min r.least latest then latest else latest - (if v then min delay limit else delay)
def sampleR (r : Rtt) (now : Int) (v : Bool) (latest delay limit : Int) : Rtt :=
  if r.least < 0 then { least := latest, latest := latest, smooth := latest, dev := latest / 2, first := now }
  else { least := min r.least latest, latest := latest, smooth := (7 * r.smooth + adjR r v latest delay limit) / 8,
         dev := (3 * r.dev + (if r.smooth - adjR r v latest delay limit < 0 then -(r.smooth - adjR r v latest delay limit) else r.smooth - adjR r v latest delay limit)) / 4, first := r.first }

theorem adjR_true (r : Rtt) (latest delay limit : Int) : adjR r true latest delay limit = if latest - min delay limit < min r.least latest then latest else latest - min delay limit := rfl
theorem adjR_false (r : Rtt) (latest delay limit : Int) : adjR r false latest delay limit = if latest - delay < min r.least latest then latest else latest - delay := rfl
theorem blk_eq {w : World} {g : Nat} {t : TypeId} {cs cs' : Array Value} (h : Blk w g t cs) (e : cs = cs') : Blk w g t cs' := e ▸ h
theorem sampleR_next (r : Rtt) (now : Int) (v : Bool) (latest delay limit : Int) (hmin : 0 ≤ r.least) (m a z : Int) (hm : min r.least latest = m) (ha : adjR r v latest delay limit = a)
    (hz : z = if r.smooth - a < 0 then -(r.smooth - a) else r.smooth - a) :
    ((((rttCells r).setIfInBounds 1 (.int .i64 latest)).setIfInBounds 0 (.int .i64 m)).setIfInBounds 3 (.int .i64 ((3 * r.dev + z) / 4))).setIfInBounds 2 (.int .i64 ((7 * r.smooth + a) / 8)) = rttCells (sampleR r now v latest delay limit) := by
  subst hm ha hz
  have : ¬ r.least < 0 := by omega
  simp [rttCells, sampleR, this]

set_option maxHeartbeats 400000 in
theorem abs_any (a : Int) (w : World) (h0 : -4611686018427387904 ≤ a) (h1 : a ≤ 4611686018427387904) :
    Calls Try.prog 41 #[.int .i64 a] w fun e w' => e = .returned (.int .i64 (if a < 0 then -a else a)) ∧ w = w' := by
  by_cases h : a < 0
  · rw [if_pos h]
    go_enter Try.func41, Try.ntmps41
    go_wp2
    go_ret
    exact ⟨rfl, rfl⟩
  · rw [if_neg h]
    go_enter Try.func41, Try.ntmps41
    go_wp2
    go_ret
    exact ⟨rfl, rfl⟩

theorem abs_z (a : Int) (w : World) (h0 : -1099511627776 ≤ a) (h1 : a ≤ 1099511627776) :
    Calls Try.prog 41 #[.int .i64 a] w fun e w' => ∃ z : Int, e = .returned (.int .i64 z) ∧ 0 ≤ z ∧ z ≤ 1099511627776 ∧ Hid (z = if a < 0 then -a else a) ∧ w = w' :=
  (abs_any a w (by omega) (by omega)).mono fun e w' ⟨he, hw⟩ => ⟨_, he, by split <;> omega, by split <;> omega, rfl, hw⟩

set_option maxHeartbeats 400000 in
theorem establish_any (g gr : Nat) (r : Rtt) (w : World) (hR : Blk w gr 58 (rttCells r)) :
    Calls Try.prog 40 #[.pointer (some ⟨gr, 0, none⟩)] w fun e w' =>
      e = .returned (.tuple #[]) ∧ Blk w' gr 58 (rttCells { r with least := r.latest }) ∧ Only g gr w w' := by
  have r1 : w.cell? ⟨gr, 1, none⟩ = some (.int .i64 r.latest) := hR.cell 1
  have r0 : w.cell? ⟨gr, 0, none⟩ = some (.int .i64 r.least) := hR.cell 0
  have f0 := hR.frozen 0
  have e : rttCells { r with least := r.latest } = (rttCells r).setIfInBounds 0 (.int .i64 r.latest) := by simp [rttCells]
  rw [e]
  clear e
  go_enter Try.func40, Try.ntmps40
  go_wp2
  go_end0
  exact ⟨rfl, hR.put 0 _, (Only.refl g gr w).put2 0 _⟩

set_option maxHeartbeats 400000 in
theorem sample_first (g gr : Nat) (r : Rtt) (now latest delay limit : Int) (v : Bool) (k : Int) (w : World) (hR : Blk w gr 58 (rttCells r))
    (hl0 : 0 ≤ latest) (hl1 : latest ≤ 1099511627776) (hmin : r.least < 0) :
    Calls Try.prog 32 #[.pointer (some ⟨gr, 0, none⟩), .agg #[.int .u64 (wl now), .int .i64 (ex now)], .bool v, .int .u8 k, .int .i64 latest, .int .i64 delay, .int .i64 limit] w fun e w' =>
      e = .returned (.tuple #[]) ∧ Blk w' gr 58 (rttCells (sampleR r now v latest delay limit)) ∧ Only g gr w w' := by
  have r0 : w.cell? ⟨gr, 0, none⟩ = some (.int .i64 r.least) := hR.cell 0
  have r1 : w.cell? ⟨gr, 1, none⟩ = some (.int .i64 r.latest) := hR.cell 1
  have r2 : w.cell? ⟨gr, 2, none⟩ = some (.int .i64 r.smooth) := hR.cell 2
  have r3 : w.cell? ⟨gr, 3, none⟩ = some (.int .i64 r.dev) := hR.cell 3
  have r4 : w.cell? ⟨gr, 4, none⟩ = some (.int .u64 (wl r.first)) := hR.cell 4
  have r5 : w.cell? ⟨gr, 5, none⟩ = some (.int .i64 (ex r.first)) := hR.cell 5
  have f0 := hR.frozen 0
  have f1 := hR.frozen 1
  have f2 := hR.frozen 2
  have f3 := hR.frozen 3
  have f4 := hR.frozen 4
  have f5 := hR.frozen 5
  have l := hR.lt
  have e : rttCells (sampleR r now v latest delay limit) = ((((((rttCells r).setIfInBounds 1 (.int .i64 latest)).setIfInBounds 0 (.int .i64 latest)).setIfInBounds 2 (.int .i64 latest)).setIfInBounds 3 (.int .i64 (latest / 2))).setIfInBounds 4 (.int .u64 (wl now))).setIfInBounds 5 (.int .i64 (ex now)) := by
    simp [rttCells, sampleR, hmin]
  rw [e]
  clear e
  go_enter Try.func32, Try.ntmps32
  go_wp2
  refine bodyPost_ret (results_none rfl _ _ _) rfl ?_
  exact ⟨rfl, ((((((hR.put 1 _).put 0 _).put 2 _).put 3 _).put 4 _).put 5 _).alloc _, (((((((Only.refl g gr w).put2 1 _).put2 0 _).put2 2 _).put2 3 _).put2 4 _).put2 5 _).alloc _⟩

set_option maxHeartbeats 400000 in
theorem sample_next (g gr : Nat) (r : Rtt) (now latest delay limit : Int) (v : Bool) (k : Int) (w : World) (hR : Blk w gr 58 (rttCells r))
    (hl0 : 0 ≤ latest) (hl1 : latest ≤ 1099511627776) (hd0 : 0 ≤ delay) (hd1 : delay ≤ 1099511627776) (ht0 : 0 ≤ limit) (ht1 : limit ≤ 1099511627776)
    (hs0 : 0 ≤ r.smooth) (hs1 : r.smooth ≤ 1099511627776) (hv0 : 0 ≤ r.dev) (hv1 : r.dev ≤ 1099511627776) (hmin : 0 ≤ r.least) (hmin1 : r.least ≤ 1099511627776) :
    Calls Try.prog 32 #[.pointer (some ⟨gr, 0, none⟩), .agg #[.int .u64 (wl now), .int .i64 (ex now)], .bool v, .int .u8 k, .int .i64 latest, .int .i64 delay, .int .i64 limit] w fun e w' =>
      e = .returned (.tuple #[]) ∧ Blk w' gr 58 (rttCells (sampleR r now v latest delay limit)) ∧ Only g gr w w' := by
  have r0 : w.cell? ⟨gr, 0, none⟩ = some (.int .i64 r.least) := hR.cell 0
  have r1 : w.cell? ⟨gr, 1, none⟩ = some (.int .i64 r.latest) := hR.cell 1
  have r2 : w.cell? ⟨gr, 2, none⟩ = some (.int .i64 r.smooth) := hR.cell 2
  have r3 : w.cell? ⟨gr, 3, none⟩ = some (.int .i64 r.dev) := hR.cell 3
  have f0 := hR.frozen 0
  have f1 := hR.frozen 1
  have f2 := hR.frozen 2
  have f3 := hR.frozen 3
  have l := hR.lt
  rcases v with _ | _
  · go_enter Try.func32, Try.ntmps32
    go_wp2_with (go_at_call 41; refine (abs_z _ _ (by omega) (by omega)).mono ?_; rintro e w' ⟨z, rfl, hz0, hz1, hz, rfl⟩)
    all_goals
      go_end0
      exact ⟨rfl, blk_eq ((((hR.put 1 _).put 0 _).put 3 _).put 2 _ |>.alloc _) (sampleR_next r now false latest delay limit hmin _ _ _ (by omega) (by rw [adjR_false]; split <;> omega) hz.out), (((((Only.refl g gr w).put2 1 _).put2 0 _).put2 3 _).put2 2 _).alloc _⟩
  · by_cases hdl : limit < delay
    all_goals
      go_enter Try.func32, Try.ntmps32
      go_wp2_with (go_at_call 41; refine (abs_z _ _ (by omega) (by omega)).mono ?_; rintro e w' ⟨z, rfl, hz0, hz1, hz, rfl⟩)
      all_goals
        go_end0
        exact ⟨rfl, blk_eq ((((hR.put 1 _).put 0 _).put 3 _).put 2 _ |>.alloc _) (sampleR_next r now true latest delay limit hmin _ _ _ (by omega) (by rw [adjR_true]; split <;> omega) hz.out), (((((Only.refl g gr w).put2 1 _).put2 0 _).put2 3 _).put2 2 _).alloc _⟩
end Go.Proofs.Ytpaociigfbibbaa
