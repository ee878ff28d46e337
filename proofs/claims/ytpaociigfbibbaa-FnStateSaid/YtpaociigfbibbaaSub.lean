/-
  The contract of Time.Sub, where the distance fits.
-/
import Derived.Test.YtpaociigfbibbaaTime
import Derived.Deep.RegionHeld3
import Derived.Deep.DrawnRows
namespace Go.Proofs.Ytpaociigfbibbaa
open Go.RowKit
attribute [local go_sem ↓] Go.wp_at_zero Go.wp_at_succ

/-- The walk goes on in a world of which just S is known. -/
theorem wp_forget {P : Program} {c : Code} {Q : Exit → Act → World → Prop} {a : Act} {w : World} (S : World → Prop) (h : S w) (k : ∀ w', S w' → Code.wp P c Q a w') : Code.wp P c Q a w := k w h

theorem below_on {B : Nat} {w W W1 : World} (h : Below B w W) (hB : B ≤ W.heap.size) (hb : Below W.heap.size W W1) : Below B w W1 := h.trans (hb.mono hB)
theorem below_on_drew {B : Nat} {w W W1 : World} (h : Below B w W) (hB : B ≤ W.heap.size) (hb : Below W.drew.heap.size W.drew W1) : Below B w W1 := h.drew.trans (hb.mono hB)

theorem keep_drew {W W1 : World} {p : Addr} {v : Value} (hb : Below W.drew.heap.size W.drew W1) (h : W.cell? p = some v) : W1.cell? p = some v := cell_later hb h

theorem sub_num (t u : Int) : (ex t - ex u) * 1000000000 + (wl t - wl u) = t - u := by unfold ex wl; omega

set_option maxHeartbeats 400000 in
theorem sub_any (t u : Int) (w : World) (hu0 : 0 ≤ u) (hu1 : u ≤ 1000000000000000000000000000) (hd0 : -2305843009213693952 ≤ t - u) (hd1 : t - u ≤ 2305843009213693952) :
    Calls Try.prog 39 #[.agg #[.int .u64 (wl t), .int .i64 (ex t)], .agg #[.int .u64 (wl u), .int .i64 (ex u)]] w fun e w' =>
      e = .returned (.int .i64 (t - u)) ∧ Below w.heap.size w w' := by
  have ha := wl_bd t
  have hb := wl_bd u
  have hm := and_and_top (wl t) (wl u) ha.1 ha.2 hb.1 hb.2
  have hm1 := and_top (wl t) ha.1 ha.2
  have hm2 := and_top (wl u) hb.1 hb.2
  have hm3 := and_mask (wl t) ha.1 ha.2
  have hm4 := and_mask (wl u) hb.1 hb.2
  have hs0 : -2305843010 ≤ ex t - ex u := by unfold ex; omega
  have hs1 : ex t - ex u ≤ 2305843010 := by unfold ex; omega
  have hx0 : -4611686018427387904 ≤ ex t := by unfold ex; omega
  have hx1 : ex t ≤ 4611686018427387904 := by unfold ex; omega
  have hy0 : -4611686018427387904 ≤ ex u := by unfold ex; omega
  have hy1 : ex u ≤ 4611686018427387904 := by unfold ex; omega
  obtain ⟨a1, a2⟩ := ha
  obtain ⟨b1, b2⟩ := hb
  have hn := sub_num t u
  go_enter Try.func39, Try.ntmps39
  go_wp2
  clear hm hm1 hm2 hm3 hm4 hn
  refine wp_forget (fun w' => w'.cell? ⟨w.heap.size, 0, none⟩ = some (.int .u64 (wl t)) ∧ w'.cell? ⟨w.heap.size, 1, none⟩ = some (.int .i64 (ex t)) ∧ w'.cell? ⟨w.heap.size + 1, 0, none⟩ = some (.int .u64 (wl u)) ∧ w'.cell? ⟨w.heap.size + 1, 1, none⟩ = some (.int .i64 (ex u)) ∧ w.heap.size + 1 < w'.heap.size ∧ Below w.heap.size w w')
    ⟨by go_simp, by go_simp, by go_simp, by go_simp, by simp, ((Below.refl _ _).alloc (Nat.le_refl _) _).alloc (by simp) _⟩ ?_
  intro W0 hS
  obtain ⟨s1, s2, s3, s4, s5, s6⟩ := hS
  go_region_held3 (fun w' => w'.cell? ⟨w.heap.size, 0, none⟩ = some (.int .u64 (wl t)) ∧ w'.cell? ⟨w.heap.size, 1, none⟩ = some (.int .i64 (ex t)) ∧ w'.cell? ⟨w.heap.size + 1, 0, none⟩ = some (.int .u64 (wl u)) ∧ w'.cell? ⟨w.heap.size + 1, 1, none⟩ = some (.int .i64 (ex u)) ∧ w.heap.size + 1 < w'.heap.size ∧ Below w.heap.size w w') ((go_split_ands; (repeat' apply And.intro) <;> first | go_keep | exact keep_drew hb (by assumption) | exact cell_later hb2 (by assumption) | exact s6.drew | exact below_on_drew (by assumption) (by omega) hb | exact below_on (by assumption) (by omega) hb2 | exact Nat.lt_of_lt_of_le s5 hb.size | exact Nat.lt_of_lt_of_le (by assumption) hb2.size))
    (first | (go_at_call 35; refine (add_any u (t - u) _ hu0 hu1 (by omega) (by omega)).mono ?_; rintro e w1 ⟨rfl, hb⟩; obtain ⟨hc, hf⟩ := bcell hb) | (go_at_call 48; refine (equal_any (u + (t - u)) t _).mono ?_; rintro e w2 ⟨rfl, hb2⟩; obtain ⟨hc2, hf2⟩ := bcell hb2))
  rename_i hS2
  obtain ⟨_, _, _, _, _, q6⟩ := hS2
  have hq : decide (u + (t - u) = t) = true := by simp; omega
  clear hb hc hf hb2 hc2 hf2
  go_wp2
  go_ret
  exact ⟨rfl, q6⟩
end Go.Proofs.Ytpaociigfbibbaa
