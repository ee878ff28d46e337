/-
  The reference: its model, and the contracts of First, Least and of laws.name.
-/
import Derived.Test.YtpaociigfbibbaaStep
import Derived.Test.YtpaociigfbibbaaWords
namespace Go.Proofs.Ytpaociigfbibbaa
open Go.RowKit

theorem sp_min (ats : Array TypeId) (ty : TypeId) (a b : Int) : Builtin.min_ ats ty #[.int .i64 a, .int .i64 b] = pure (.int .i64 (min a b)) := by
  have h : (if b < a then b else a) = min a b := by split <;> omega
  rw [← h]; rfl
theorem sp_max (ats : Array TypeId) (ty : TypeId) (a b : Int) : Builtin.max_ ats ty #[.int .i64 a, .int .i64 b] = pure (.int .i64 (max a b)) := by
  have h : (if a < b then b else a) = max a b := by split <;> omega
  rw [← h]; rfl
attribute [local go_sem ↓] sp_min sp_max

/-- The reference's state. -/
structure Sp where
  window : Int
  flight : Int
  thresh : Int
  pend : Int
  can : Bool
  one : Bool
  inr : Bool
  lim : Bool
  least : Int
  smooth : Int
  dev : Int
  start : Int
  last : Int
  loss : Bool
  size : Int

def spCells (s : Sp) : Array Value :=
  #[.int .i64 s.window, .int .i64 s.flight, .int .i64 s.thresh, .int .i64 s.pend, .bool s.can, .bool s.one, .bool s.inr, .bool s.lim, .int .i64 s.least, .int .i64 s.smooth, .int .i64 s.dev, .int .i64 s.start, .int .i64 s.last, .bool s.loss, .int .i64 s.size]

def spFirst (size : Int) : Sp :=
  { window := min (10 * size) (max 14720 (2 * size)), flight := 0, thresh := 9223372036854775807, pend := 0, can := true, one := false, inr := false, lim := false,
    least := -1, smooth := 333000000, dev := 166500000, start := -1, last := 0, loss := false, size := size }

def spName (s : Sp) : ByteArray :=
  if s.inr then ⟨#[114, 101, 99, 111, 118, 101, 114, 121]⟩
  else if s.lim then ⟨#[97, 112, 112, 108, 105, 99, 97, 116, 105, 111, 110, 95, 108, 105, 109, 105, 116, 101, 100]⟩
  else if s.window < s.thresh then ⟨#[115, 108, 111, 119, 95, 115, 116, 97, 114, 116]⟩
  else ⟨#[99, 111, 110, 103, 101, 115, 116, 105, 111, 110, 95, 97, 118, 111, 105, 100, 97, 110, 99, 101]⟩

set_option maxHeartbeats 1000000 in
theorem spFirst_any (size : Int) (w : World) (h0 : 1200 ≤ size) (h1 : size ≤ 65527) :
    Calls Try.prog 13 #[.int .i64 size] w fun e w' => e = .returned (.agg (spCells (spFirst size))) ∧ Below w.heap.size w w' := by
  have hw1 : IntKind.i64.wrap (10 * size) = 10 * size := IntWalk.i64_in _ (by omega)
  have hw2 : IntKind.i64.wrap (2 * size) = 2 * size := IntWalk.i64_in _ (by omega)
  go_enter Try.func13, Try.ntmps13
  go_wp2_with fail
  refine bodyPost_ret (v := .agg (spCells (spFirst size))) (by simp [results, Try.results13, go_sem, spCells, spFirst]) rfl ⟨rfl, (Below.refl _ _).alloc (Nat.le_refl _) _⟩

set_option maxHeartbeats 1000000 in
theorem least_any (size : Int) (w : World) (h0 : 0 ≤ size) (h1 : size ≤ 65535) :
    Calls Try.prog 17 #[.int .i64 size] w fun e w' => e = .returned (.int .i64 (2 * size)) ∧ w = w' := by
  have hw2 : IntKind.i64.wrap (2 * size) = 2 * size := IntWalk.i64_in _ (by omega)
  go_enter Try.func17, Try.ntmps17
  go_wp2_with fail
  go_ret
  exact ⟨rfl, rfl⟩

set_option maxHeartbeats 1000000 in
theorem name_any (s : Sp) (w : World) :
    Calls Try.prog 14 #[.agg (spCells s)] w fun e w' => e = .returned (.string (spName s)) ∧ Below w.heap.size w w' := by
  rcases h : s.inr with _ | _
  · rcases h2 : s.lim with _ | _
    · by_cases h3 : s.window < s.thresh
      · have e : spName s = ⟨#[115, 108, 111, 119, 95, 115, 116, 97, 114, 116]⟩ := by simp [spName, h, h2, h3]
        rw [e]
        unfold spCells
        rw [h, h2]
        clear e
        go_enter Try.func14, Try.ntmps14
        go_wp2_with fail
        go_ret
        exact ⟨rfl, (Below.refl _ _).alloc (Nat.le_refl _) _⟩
      · have e : spName s = ⟨#[99, 111, 110, 103, 101, 115, 116, 105, 111, 110, 95, 97, 118, 111, 105, 100, 97, 110, 99, 101]⟩ := by simp [spName, h, h2, h3]
        rw [e]
        unfold spCells
        rw [h, h2]
        clear e
        go_enter Try.func14, Try.ntmps14
        go_wp2_with fail
        go_ret
        exact ⟨rfl, (Below.refl _ _).alloc (Nat.le_refl _) _⟩
    · have e : spName s = ⟨#[97, 112, 112, 108, 105, 99, 97, 116, 105, 111, 110, 95, 108, 105, 109, 105, 116, 101, 100]⟩ := by simp [spName, h, h2]
      rw [e]
      unfold spCells
      rw [h, h2]
      clear e
      go_enter Try.func14, Try.ntmps14
      go_wp2_with fail
      go_ret
      exact ⟨rfl, (Below.refl _ _).alloc (Nat.le_refl _) _⟩
  · have e : spName s = ⟨#[114, 101, 99, 111, 118, 101, 114, 121]⟩ := by simp [spName, h]
    rw [e]
    unfold spCells
    rw [h]
    clear e
    go_enter Try.func14, Try.ntmps14
    go_wp2_with fail
    go_ret
    exact ⟨rfl, (Below.refl _ _).alloc (Nat.le_refl _) _⟩

end Go.Proofs.Ytpaociigfbibbaa
