/-
  FnFirst: its walk.
-/
import Derived.Test.YtpaociigfbibbaaRun
namespace Go.Proofs.Ytpaociigfbibbaa
open Go.RowKit

/-- The cells of a result of impl.Run. -/
theorem out_at {w : World} {B g cap size' : Nat} {size : Int} {ops : List Call} {n : Nat} (h : w.ownsRow B 28 11 (.slice (some ⟨g, 0, none⟩) n cap) n (rows size ops n)) (_hs : size' = n) {k j : Nat} {v : Value} (hk : k < n)
    (hv : (rowCells (stAt size ops k))[j]? = some v) : w.cell? ⟨g, k * 11 + j, none⟩ = some v := by
  have hj : j < 11 := by
    obtain ⟨h1, _⟩ := List.getElem?_eq_some_iff.1 hv
    simpa [rowCells_length] using h1
  have := h.cells (g := g) rfl (k * 11 + j) v (by rw [rows_at size ops hk hj]; exact hv)
  rw [add_off] at this
  exact this

theorem opsAt_nil (w : World) (B : Nat) (A : Option Addr) : OpsAt w B A [] := fun h => absurd h (by simp)

theorem state_new (size : Int) (h1 : size ≤ 65527) : stateBytes (newC size) = ⟨#[115, 108, 111, 119, 95, 115, 116, 97, 114, 116]⟩ := by
  have h : (newC size).window < (newC size).thresh := by show min (10 * size) (max 14720 (2 * size)) < 9223372036854775807; omega
  unfold stateBytes
  rw [if_neg (by simp [newC]), if_neg (by simp [newC]), if_pos h]

set_option maxRecDepth 100000 in
set_option maxHeartbeats 2000000 in
theorem first_a (size : Int) (w : World) (h0 : 1200 ≤ size) (h1 : size ≤ 65527) (hx : (14720 : Int) < 2 * size) :
    Calls Try.prog 4 #[.int .i64 size] w fun e w' => e = .returned (.bool true) ∧ Below w.heap.size w w' := by
  have Hm := Lib.hid (show min (10 * size) (max 14720 (2 * size)) = 2 * size by omega)
  have hw1 : IntKind.i64.wrap (10 * size) = 10 * size := IntWalk.i64_in _ (by omega)
  have hw2 : IntKind.i64.wrap (2 * size) = 2 * size := IntWalk.i64_in _ (by omega)
  go_enter Try.func4, Try.ntmps4
  go_upto_region 4 with (go_at_call 11; refine (run_any size none 0 [] _ (opsAt_nil _ _ _) (by simp) h0 h1 (fun o ho => by cases ho)).mono ?_; rintro e w1 ⟨g, cap, rfl, hown, hb⟩)
  have y0 : w1.cell? ⟨g, 0, none⟩ = some (.int .i64 (2 * size)) := out_at hown rfl (k := 0) (j := 0) (by simp) (by rw [← Hm.out]; rfl)
  have y1 : w1.cell? ⟨g, 1, none⟩ = some (.int .i64 0) := out_at hown rfl (k := 0) (j := 1) (by simp) rfl
  have y2 : w1.cell? ⟨g, 2, none⟩ = some (.int .i64 9223372036854775807) := out_at hown rfl (k := 0) (j := 2) (by simp) rfl
  have y7 : w1.cell? ⟨g, 7, none⟩ = some (.string ⟨#[115, 108, 111, 119, 95, 115, 116, 97, 114, 116]⟩) := out_at hown rfl (k := 0) (j := 7) (by simp) (by rw [← state_new size h1]; rfl)
  have y9 : w1.cell? ⟨g, 9, none⟩ = some (.int .i64 333000000) := out_at hown rfl (k := 0) (j := 9) (by simp) rfl
  have y10 : w1.cell? ⟨g, 10, none⟩ = some (.int .i64 166500000) := out_at hown rfl (k := 0) (j := 10) (by simp) rfl
  have hw3 : IntKind.i64.wrap (2 * 166500000) = 333000000 := by decide
  clear hown
  go_quiet (fail)
  go_wp2_with fail
  go_ret
  exact ⟨rfl, below_drewN hb _⟩

set_option maxRecDepth 100000 in
set_option maxHeartbeats 2000000 in
theorem first_b (size : Int) (w : World) (h0 : 1200 ≤ size) (h1 : size ≤ 65527) (hx : ¬ (14720 : Int) < 2 * size) (hy : (14720 : Int) < 10 * size) :
    Calls Try.prog 4 #[.int .i64 size] w fun e w' => e = .returned (.bool true) ∧ Below w.heap.size w w' := by
  have Hm := Lib.hid (show min (10 * size) (max 14720 (2 * size)) = 14720 by omega)
  have hw1 : IntKind.i64.wrap (10 * size) = 10 * size := IntWalk.i64_in _ (by omega)
  have hw2 : IntKind.i64.wrap (2 * size) = 2 * size := IntWalk.i64_in _ (by omega)
  go_enter Try.func4, Try.ntmps4
  go_upto_region 4 with (go_at_call 11; refine (run_any size none 0 [] _ (opsAt_nil _ _ _) (by simp) h0 h1 (fun o ho => by cases ho)).mono ?_; rintro e w1 ⟨g, cap, rfl, hown, hb⟩)
  have y0 : w1.cell? ⟨g, 0, none⟩ = some (.int .i64 (14720)) := out_at hown rfl (k := 0) (j := 0) (by simp) (by rw [← Hm.out]; rfl)
  have y1 : w1.cell? ⟨g, 1, none⟩ = some (.int .i64 0) := out_at hown rfl (k := 0) (j := 1) (by simp) rfl
  have y2 : w1.cell? ⟨g, 2, none⟩ = some (.int .i64 9223372036854775807) := out_at hown rfl (k := 0) (j := 2) (by simp) rfl
  have y7 : w1.cell? ⟨g, 7, none⟩ = some (.string ⟨#[115, 108, 111, 119, 95, 115, 116, 97, 114, 116]⟩) := out_at hown rfl (k := 0) (j := 7) (by simp) (by rw [← state_new size h1]; rfl)
  have y9 : w1.cell? ⟨g, 9, none⟩ = some (.int .i64 333000000) := out_at hown rfl (k := 0) (j := 9) (by simp) rfl
  have y10 : w1.cell? ⟨g, 10, none⟩ = some (.int .i64 166500000) := out_at hown rfl (k := 0) (j := 10) (by simp) rfl
  have hw3 : IntKind.i64.wrap (2 * 166500000) = 333000000 := by decide
  clear hown
  go_quiet (fail)
  go_wp2_with fail
  go_ret
  exact ⟨rfl, below_drewN hb _⟩

set_option maxRecDepth 100000 in
set_option maxHeartbeats 2000000 in
theorem first_c (size : Int) (w : World) (h0 : 1200 ≤ size) (h1 : size ≤ 65527) (hx : ¬ (14720 : Int) < 2 * size) (hy : ¬ (14720 : Int) < 10 * size) :
    Calls Try.prog 4 #[.int .i64 size] w fun e w' => e = .returned (.bool true) ∧ Below w.heap.size w w' := by
  have Hm := Lib.hid (show min (10 * size) (max 14720 (2 * size)) = 10 * size by omega)
  have hw1 : IntKind.i64.wrap (10 * size) = 10 * size := IntWalk.i64_in _ (by omega)
  have hw2 : IntKind.i64.wrap (2 * size) = 2 * size := IntWalk.i64_in _ (by omega)
  go_enter Try.func4, Try.ntmps4
  go_upto_region 4 with (go_at_call 11; refine (run_any size none 0 [] _ (opsAt_nil _ _ _) (by simp) h0 h1 (fun o ho => by cases ho)).mono ?_; rintro e w1 ⟨g, cap, rfl, hown, hb⟩)
  have y0 : w1.cell? ⟨g, 0, none⟩ = some (.int .i64 (10 * size)) := out_at hown rfl (k := 0) (j := 0) (by simp) (by rw [← Hm.out]; rfl)
  have y1 : w1.cell? ⟨g, 1, none⟩ = some (.int .i64 0) := out_at hown rfl (k := 0) (j := 1) (by simp) rfl
  have y2 : w1.cell? ⟨g, 2, none⟩ = some (.int .i64 9223372036854775807) := out_at hown rfl (k := 0) (j := 2) (by simp) rfl
  have y7 : w1.cell? ⟨g, 7, none⟩ = some (.string ⟨#[115, 108, 111, 119, 95, 115, 116, 97, 114, 116]⟩) := out_at hown rfl (k := 0) (j := 7) (by simp) (by rw [← state_new size h1]; rfl)
  have y9 : w1.cell? ⟨g, 9, none⟩ = some (.int .i64 333000000) := out_at hown rfl (k := 0) (j := 9) (by simp) rfl
  have y10 : w1.cell? ⟨g, 10, none⟩ = some (.int .i64 166500000) := out_at hown rfl (k := 0) (j := 10) (by simp) rfl
  have hw3 : IntKind.i64.wrap (2 * 166500000) = 333000000 := by decide
  clear hown
  go_quiet (fail)
  go_wp2_with fail
  go_ret
  exact ⟨rfl, below_drewN hb _⟩

set_option maxHeartbeats 400000 in
theorem first_walk (size : Int) (w : World) : Calls Try.prog 4 #[.int .i64 size] w fun e w' => e = .returned (.bool true) ∧ Below w.heap.size w w' := by
  by_cases h0 : size < 1200
  · go_enter Try.func4, Try.ntmps4
    go_wp2_with fail
    go_ret
    exact ⟨rfl, Below.refl _ _⟩
  · by_cases h1 : 65527 < size
    · go_enter Try.func4, Try.ntmps4
      go_wp2_with fail
      go_ret
      exact ⟨rfl, Below.refl _ _⟩
    · by_cases hx : (14720 : Int) < 2 * size
      · exact first_a size w (by omega) (by omega) hx
      · by_cases hy : (14720 : Int) < 10 * size
        · exact first_b size w (by omega) (by omega) hx hy
        · exact first_c size w (by omega) (by omega) hx hy

end Go.Proofs.Ytpaociigfbibbaa
