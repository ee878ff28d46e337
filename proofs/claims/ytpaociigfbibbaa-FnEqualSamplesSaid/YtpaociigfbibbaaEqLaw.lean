/-
  FnEqualSamples, the plain law: samples that are all the same.
-/
import Derived.Test.YtpaociigfbibbaaStep
namespace Go.Proofs.Ytpaociigfbibbaa
open Go.RowKit

def eqCall (latest : Int) : Call := { kind := 6, space := 2, now := 1, time := 0, num := 0, size := 0, el := false, inf := false, v := false, latest := latest, delay := 0, limit := 0 }
def devAt (latest : Int) : Nat → Int
  | 0 => latest / 2
  | k + 1 => 3 * devAt latest k / 4

theorem good_eq (latest : Int) (h0 : 0 ≤ latest) (h1 : latest ≤ 1099511627776) : Good (eqCall latest) := by
  constructor <;> simp only [eqCall] <;> omega

theorem eq_one (size latest : Int) : stepM (s0 size) (eqCall latest) = ⟨newC size, { least := latest, latest := latest, smooth := latest, dev := latest / 2, first := tm 1 }⟩ := by
  simp [stepM, eqCall, s0, sampleR, newR]
theorem eq_next (c : Ctl) (latest d f : Int) (h0 : 0 ≤ latest) :
    stepM ⟨c, { least := latest, latest := latest, smooth := latest, dev := d, first := f }⟩ (eqCall latest) = ⟨c, { least := latest, latest := latest, smooth := latest, dev := 3 * d / 4, first := f }⟩ := by
  have h : ¬ latest < 0 := by omega
  have ha : adjR { least := latest, latest := latest, smooth := latest, dev := d, first := f } false latest 0 0 = latest := by
    rw [adjR_false]; split <;> omega
  simp only [stepM, eqCall, sampleR, if_neg h, ha]
  have e1 : (7 * latest + latest) / 8 = latest := by omega
  have e2 : min latest latest = latest := by omega
  have e3 : ¬ latest - latest < 0 := by omega
  have e4 : 3 * d + (latest - latest) = 3 * d := by omega
  simp [e1, e2]

theorem st_eq (size latest : Int) (n : Nat) (h0 : 0 ≤ latest) : ∀ k, k < n → stAt size (List.replicate n (eqCall latest)) (k + 1) = ⟨newC size, { least := latest, latest := latest, smooth := latest, dev := devAt latest k, first := tm 1 }⟩
  | 0, hk => by
    rw [stAt_succ size _ (by simpa using hk), stAt_zero, List.getElem_replicate]
    exact eq_one size latest
  | k + 1, hk => by
    rw [stAt_succ size _ (by simpa using hk), st_eq size latest n h0 k (by omega), List.getElem_replicate]
    exact eq_next _ latest _ _ h0

theorem devAt_nonneg (latest : Int) (h0 : 0 ≤ latest) : ∀ k, 0 ≤ devAt latest k
  | 0 => by unfold devAt; omega
  | k + 1 => by have := devAt_nonneg latest h0 k; unfold devAt; omega
theorem devAt_le (latest : Int) (h0 : 0 ≤ latest) (k : Nat) : devAt latest (k + 1) ≤ devAt latest k := by
  have := devAt_nonneg latest h0 k
  show 3 * devAt latest k / 4 ≤ devAt latest k
  omega

def top : Nat → Nat
  | 0 => 549755813888
  | k + 1 => 3 * top k / 4
theorem dev_top (latest : Int) (h0 : 0 ≤ latest) (h1 : latest ≤ 1099511627776) : ∀ k, devAt latest k ≤ (top k : Int)
  | 0 => by show latest / 2 ≤ 549755813888; omega
  | k + 1 => by
    have := dev_top latest h0 h1 k
    have := devAt_nonneg latest h0 k
    show 3 * devAt latest k / 4 ≤ ((3 * top k / 4 : Nat) : Int)
    omega
theorem top_le (k : Nat) : ∀ m, top (k + m) ≤ top k
  | 0 => Nat.le_refl _
  | m + 1 => by
    have := top_le k m
    show 3 * top (k + m) / 4 ≤ top k
    omega
theorem top_150 : top 150 ≤ 3 := by decide +kernel
theorem dev_end (latest : Int) (h0 : 0 ≤ latest) (h1 : latest ≤ 1099511627776) {k : Nat} (hk : 150 ≤ k) : devAt latest k ≤ 3 := by
  have e := dev_top latest h0 h1 k
  obtain ⟨m, rfl⟩ : ∃ m, k = 150 + m := ⟨k - 150, by omega⟩
  have := top_le 150 m
  have := top_150
  omega

end Go.Proofs.Ytpaociigfbibbaa
