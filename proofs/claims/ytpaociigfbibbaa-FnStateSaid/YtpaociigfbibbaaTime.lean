/-
  Contracts of the laid package timecore, for times without a monotonic reading: their nanoseconds lie below a second, their seconds fit.
-/
import Derived.Test.YtpaociigfbibbaaRows
import Derived.Test.YtpaociigfbibbaaBits
import Derived.WalkSpells
import Derived.WalkLawsBesides
import Derived.Lib.Hide
namespace Go.Proofs.Ytpaociigfbibbaa
open Go.RowKit

theorem bool_ret {a b : Prop} [Decidable a] [Decidable b] (h : a ↔ b) : Ending.returned (.bool (decide a)) = Ending.returned (.bool (decide b)) := by
  rw [decide_eq_decide.2 h]
theorem true_ret {a : Prop} [Decidable a] (h : a) : Ending.returned (.bool true) = Ending.returned (.bool (decide a)) := by rw [decide_eq_true h]
theorem false_ret {a : Prop} [Decidable a] (h : ¬ a) : Ending.returned (.bool false) = Ending.returned (.bool (decide a)) := by rw [decide_eq_false h]

theorem beq_dec (a b : Int) : (a == b) = decide (a = b) := by rw [Bool.eq_iff_iff]; simp

theorem agg_ret {a b c d : Int} (h1 : a = c) (h2 : b = d) : Ending.returned (.agg #[.int .u64 a, .int .i64 b]) = Ending.returned (.agg #[.int .u64 c, .int .i64 d]) := by
  rw [h1, h2]

/-- Old cells and old marks read as before. -/
theorem bcell {W w1 : World} (hb : Below W.heap.size W w1) : (∀ b o, b < W.heap.size → w1.cell? ⟨b, o, none⟩ = W.cell? ⟨b, o, none⟩) ∧ (∀ b o, b < W.heap.size → w1.frozen? ⟨b, o, none⟩ = W.frozen? ⟨b, o, none⟩) :=
  ⟨fun b o h => hb.cell (p := ⟨b, o, none⟩) h, fun b o h => hb.frozen (p := ⟨b, o, none⟩) h⟩

set_option maxHeartbeats 400000 in
theorem nsec_any (b o : Nat) (n : Int) (w : World) (h0 : 0 ≤ n) (h1 : n < 1000000000) (hc : w.cell? ⟨b, o, none⟩ = some (.int .u64 n)) :
    Calls Try.prog 43 #[.pointer (some ⟨b, o, none⟩)] w fun e w' => e = .returned (.int .i32 n) ∧ w = w' := by
  have hm := and_mask n h0 h1
  go_enter Try.func43, Try.ntmps43
  go_wp2
  go_ret
  exact ⟨rfl, rfl⟩

set_option maxHeartbeats 400000 in
theorem sec_any (b o : Nat) (n x : Int) (w : World) (h0 : 0 ≤ n) (h1 : n < 1000000000) (hc : w.cell? ⟨b, o, none⟩ = some (.int .u64 n)) (hd : w.cell? ⟨b, o + 1, none⟩ = some (.int .i64 x)) :
    Calls Try.prog 46 #[.pointer (some ⟨b, o, none⟩)] w fun e w' => e = .returned (.int .i64 x) ∧ w = w' := by
  have hm := and_top n h0 h1
  go_enter Try.func46, Try.ntmps46
  go_wp2
  go_ret
  exact ⟨rfl, rfl⟩

set_option maxHeartbeats 400000 in
theorem unixTime_any (s n : Int) (w : World) (h0 : 0 ≤ n) (h1 : n < 1000000000) (hs0 : 0 ≤ s) (hs1 : s < 4611686018427387904) :
    Calls Try.prog 42 #[.int .i64 s, .int .i32 n] w fun e w' => e = .returned (.agg #[.int .u64 n, .int .i64 (s + 62135596800)]) ∧ Below w.heap.size w w' := by
  go_enter Try.func42, Try.ntmps42
  go_wp2
  refine bodyPost_ret (v := .agg #[.int .u64 n, .int .i64 (s + 62135596800)]) (by simp [results, Try.results42, go_sem]) rfl ⟨rfl, ?_⟩
  exact (Below.refl _ _).alloc (Nat.le_refl _) _

set_option maxHeartbeats 400000 in
theorem unix_any (w : World) :
    Calls Try.prog 34 #[.int .i64 1000000, .int .i64 0] w fun e w' => e = .returned (.agg #[.int .u64 0, .int .i64 62136596800]) ∧ Below w.heap.size w w' := by
  go_enter Try.func34, Try.ntmps34
  go_wp2_with (go_at_call 42; refine (unixTime_any _ _ _ (by omega) (by omega) (by omega) (by omega)).mono ?_; rintro e w1 ⟨rfl, hb⟩; obtain ⟨hc, hf⟩ := bcell hb; have hz : w.heap.size < w1.heap.size := by have := hb.size; simp at this; omega)
  refine bodyPost_ret (v := .agg #[.int .u64 0, .int .i64 62136596800]) (by simp [results, Try.results34, go_sem, hc]) rfl ⟨rfl, ?_⟩
  exact (((Below.refl _ _).alloc (Nat.le_refl _) _).trans (hb.mono (by simp))).setCell (by simp) _ |>.setCell (by simp) _

set_option maxHeartbeats 400000 in
theorem before_raw (m x n y : Int) (w : World) (h0 : 0 ≤ m) (h1 : m < 1000000000) (h2 : 0 ≤ n) (h3 : n < 1000000000) :
    Calls Try.prog 36 #[.agg #[.int .u64 m, .int .i64 x], .agg #[.int .u64 n, .int .i64 y]] w fun e w' =>
      e = .returned (.bool (decide (x < y ∨ x = y ∧ m < n))) ∧ Below w.heap.size w w' := by
  have hm := and_and_top m n h0 h1 h2 h3
  have hm1 := and_top m h0 h1
  have hm2 := and_top n h2 h3
  have hm3 := and_mask m h0 h1
  have hm4 := and_mask n h2 h3
  go_enter Try.func36, Try.ntmps36
  go_wp2
  · go_ret
    have : x = y := by assumption
    refine ⟨bool_ret (by omega), ?_⟩
    exact ((Below.refl _ _).alloc (Nat.le_refl _) _).alloc (by simp) _
  · go_ret
    have : ¬ x = y := by assumption
    refine ⟨bool_ret (by omega), ?_⟩
    exact ((Below.refl _ _).alloc (Nat.le_refl _) _).alloc (by simp) _
  · go_ret
    refine ⟨rfl, ?_⟩
    exact ((Below.refl _ _).alloc (Nat.le_refl _) _).alloc (by simp) _

set_option maxHeartbeats 400000 in
theorem after_raw (m x n y : Int) (w : World) (h0 : 0 ≤ m) (h1 : m < 1000000000) (h2 : 0 ≤ n) (h3 : n < 1000000000) :
    Calls Try.prog 38 #[.agg #[.int .u64 m, .int .i64 x], .agg #[.int .u64 n, .int .i64 y]] w fun e w' =>
      e = .returned (.bool (decide (y < x ∨ x = y ∧ n < m))) ∧ Below w.heap.size w w' := by
  have hm := and_and_top m n h0 h1 h2 h3
  have hm1 := and_top m h0 h1
  have hm2 := and_top n h2 h3
  have hm3 := and_mask m h0 h1
  have hm4 := and_mask n h2 h3
  go_enter Try.func38, Try.ntmps38
  go_wp2
  · go_ret
    have : x = y := by assumption
    refine ⟨bool_ret (by omega), ?_⟩
    exact ((Below.refl _ _).alloc (Nat.le_refl _) _).alloc (by simp) _
  · go_ret
    have : ¬ x = y := by assumption
    refine ⟨bool_ret (by omega), ?_⟩
    exact ((Below.refl _ _).alloc (Nat.le_refl _) _).alloc (by simp) _
  · go_ret
    refine ⟨rfl, ?_⟩
    exact ((Below.refl _ _).alloc (Nat.le_refl _) _).alloc (by simp) _

set_option maxHeartbeats 400000 in
theorem equal_raw (m x n y : Int) (w : World) (h0 : 0 ≤ m) (h1 : m < 1000000000) (h2 : 0 ≤ n) (h3 : n < 1000000000) :
    Calls Try.prog 48 #[.agg #[.int .u64 m, .int .i64 x], .agg #[.int .u64 n, .int .i64 y]] w fun e w' =>
      e = .returned (.bool (decide (x = y ∧ m = n))) ∧ Below w.heap.size w w' := by
  have hm := and_and_top m n h0 h1 h2 h3
  have hm1 := and_top m h0 h1
  have hm2 := and_top n h2 h3
  have hm3 := and_mask m h0 h1
  have hm4 := and_mask n h2 h3
  go_enter Try.func48, Try.ntmps48
  go_wp2
  · go_ret
    refine ⟨?_, ?_⟩
    · have : x = y := by assumption
      rw [beq_dec]; exact bool_ret (by omega)
    · exact ((Below.refl _ _).alloc (Nat.le_refl _) _).alloc (by simp) _
  · go_ret
    have : ¬ x = y := by assumption
    refine ⟨false_ret (by omega), ?_⟩
    exact ((Below.refl _ _).alloc (Nat.le_refl _) _).alloc (by simp) _

set_option maxHeartbeats 400000 in
theorem isZero_raw (m x : Int) (w : World) :
    Calls Try.prog 37 #[.agg #[.int .u64 m, .int .i64 x]] w fun e w' =>
      e = .returned (.bool (decide (m = 0 ∧ x = 0))) ∧ Below w.heap.size w w' := by
  go_enter Try.func37, Try.ntmps37
  go_wp2
  · go_ret
    refine ⟨?_, ?_⟩
    · have : m = 0 := by assumption
      rw [beq_dec]; exact bool_ret (by omega)
    · exact (Below.refl _ _).alloc (Nat.le_refl _) _
  · go_ret
    have : ¬ m = 0 := by assumption
    refine ⟨false_ret (by omega), ?_⟩
    exact (Below.refl _ _).alloc (Nat.le_refl _) _

set_option maxHeartbeats 400000 in
theorem addSec_any (b o : Nat) (n x d : Int) (w : World) (h0 : 0 ≤ n) (h1 : n < 1000000000) (hc : w.cell? ⟨b, o, none⟩ = some (.int .u64 n)) (hd : w.cell? ⟨b, o + 1, none⟩ = some (.int .i64 x)) (hf : w.frozen? ⟨b, o + 1, none⟩ = false)
    (hx0 : -2305843009213693952 ≤ x) (hx1 : x ≤ 2305843009213693952) (hd0 : -2305843009213693952 ≤ d) (hd1 : d ≤ 2305843009213693952) :
    Calls Try.prog 44 #[.pointer (some ⟨b, o, none⟩), .int .i64 d] w fun e w' => e = .returned (.tuple #[]) ∧ w.setCell ⟨b, o + 1, none⟩ (.int .i64 (x + d)) = w' := by
  have hm := and_top n h0 h1
  by_cases hp : 0 < d
  · go_enter Try.func44, Try.ntmps44
    go_wp2
    go_end0
    exact ⟨rfl, rfl⟩
  · have hq : decide (x < x + d) = false := by simp; omega
    go_enter Try.func44, Try.ntmps44
    go_wp2
    go_end0
    exact ⟨rfl, rfl⟩

set_option maxHeartbeats 400000 in
theorem add_raw (m x d : Int) (w : World) (h0 : 0 ≤ m) (h1 : m < 1000000000) 
    (hx0 : -1152921504606846976 ≤ x) (hx1 : x ≤ 1152921504606846976) (hd0 : -4611686018427387904 ≤ d) (hd1 : d ≤ 4611686018427387904) :
    Calls Try.prog 35 #[.agg #[.int .u64 m, .int .i64 x], .int .i64 d] w fun e w' =>
      e = .returned (.agg #[.int .u64 ((m + d) % 1000000000), .int .i64 (x + (m + d) / 1000000000)]) ∧ Below w.heap.size w w' := by
  have hm1 := and_top m h0 h1
  have hm3 := and_mask m h0 h1
  by_cases hd : 0 ≤ d
  · by_cases hq : m + d % 1000000000 < 1000000000
    · have hl := lay_nsec m (m + d % 1000000000) h0 h1 (by omega) hq
      have ht := and_top (m + d % 1000000000) (by omega) hq
      go_enter Try.func35, Try.ntmps35
      go_wp2_with (first | (go_at_call 43; refine (nsec_any _ _ m _ h0 h1 ?_).mono ?_; (· go_simp); rintro e w' ⟨rfl, rfl⟩) | (go_at_call 44; refine (addSec_any _ _ (m + d % 1000000000) x _ _ (by omega) (by omega) ?_ ?_ ?_ (by omega) (by omega) (by omega) (by omega)).mono ?_; (· go_simp); (· go_simp); (· go_simp); rintro e w' ⟨rfl, rfl⟩))
      refine bodyPost_ret (v := .agg #[.int .u64 (m + d % 1000000000), .int .i64 (x + d / 1000000000)]) (by simp [results, Try.results35, go_sem]) rfl ⟨agg_ret (by omega) (by omega), ?_⟩
      exact ((Below.refl _ _).alloc (Nat.le_refl _) _).alloc (by simp) _
    · have hl := lay_nsec m (m + d % 1000000000 - 1000000000) h0 h1 (by omega) (by omega)
      have ht := and_top (m + d % 1000000000 - 1000000000) (by omega) (by omega)
      go_enter Try.func35, Try.ntmps35
      go_wp2_with (first | (go_at_call 43; refine (nsec_any _ _ m _ h0 h1 ?_).mono ?_; (· go_simp); rintro e w' ⟨rfl, rfl⟩) | (go_at_call 44; refine (addSec_any _ _ (m + d % 1000000000 - 1000000000) x _ _ (by omega) (by omega) ?_ ?_ ?_ (by omega) (by omega) (by omega) (by omega)).mono ?_; (· go_simp); (· go_simp); (· go_simp); rintro e w' ⟨rfl, rfl⟩))
      refine bodyPost_ret (v := .agg #[.int .u64 (m + d % 1000000000 - 1000000000), .int .i64 (x + (d / 1000000000 + 1))]) (by simp [results, Try.results35, go_sem]) rfl ⟨agg_ret (by omega) (by omega), ?_⟩
      exact ((Below.refl _ _).alloc (Nat.le_refl _) _).alloc (by simp) _
  · have e1 : d.tdiv 1000000000 = -((-d) / 1000000000) := by
      obtain ⟨k, rfl⟩ : ∃ k : Int, d = -k := ⟨-d, by omega⟩
      rw [Int.neg_tdiv, Int.neg_neg, Int.tdiv_eq_ediv_of_nonneg (by omega)]
    have e2 : d.tmod 1000000000 = -((-d) % 1000000000) := by
      obtain ⟨k, rfl⟩ : ∃ k : Int, d = -k := ⟨-d, by omega⟩
      rw [Int.neg_tmod, Int.neg_neg, Int.tmod_eq_emod_of_nonneg (by omega)]
    by_cases hq : 0 ≤ m - (-d) % 1000000000
    · have hl := lay_nsec m (m + -(-d % 1000000000)) h0 h1 (by omega) (by omega)
      have ht := and_top (m + -(-d % 1000000000)) (by omega) (by omega)
      go_enter Try.func35, Try.ntmps35
      go_wp2_with (first | (go_at_call 43; refine (nsec_any _ _ m _ h0 h1 ?_).mono ?_; (· go_simp); rintro e w' ⟨rfl, rfl⟩) | (go_at_call 44; refine (addSec_any _ _ (m + -(-d % 1000000000)) x _ _ (by omega) (by omega) ?_ ?_ ?_ (by omega) (by omega) (by omega) (by omega)).mono ?_; (· go_simp); (· go_simp); (· go_simp); rintro e w' ⟨rfl, rfl⟩))
      refine bodyPost_ret (v := .agg #[.int .u64 (m + -(-d % 1000000000)), .int .i64 (x + -(-d / 1000000000))]) (by simp [results, Try.results35, go_sem]) rfl ⟨agg_ret (by omega) (by omega), ?_⟩
      exact ((Below.refl _ _).alloc (Nat.le_refl _) _).alloc (by simp) _
    · have hl := lay_nsec m (m + -(-d % 1000000000) + 1000000000) h0 h1 (by omega) (by omega)
      have ht := and_top (m + -(-d % 1000000000) + 1000000000) (by omega) (by omega)
      go_enter Try.func35, Try.ntmps35
      go_wp2_with (first | (go_at_call 43; refine (nsec_any _ _ m _ h0 h1 ?_).mono ?_; (· go_simp); rintro e w' ⟨rfl, rfl⟩) | (go_at_call 44; refine (addSec_any _ _ (m + -(-d % 1000000000) + 1000000000) x _ _ (by omega) (by omega) ?_ ?_ ?_ (by omega) (by omega) (by omega) (by omega)).mono ?_; (· go_simp); (· go_simp); (· go_simp); rintro e w' ⟨rfl, rfl⟩))
      refine bodyPost_ret (v := .agg #[.int .u64 (m + -(-d % 1000000000) + 1000000000), .int .i64 (x + (-(-d / 1000000000) - 1))]) (by simp [results, Try.results35, go_sem]) rfl ⟨agg_ret (by omega) (by omega), ?_⟩
      exact ((Below.refl _ _).alloc (Nat.le_refl _) _).alloc (by simp) _

/-! A time is one number: nanoseconds since the beginning of year 1. -/
def wl (t : Int) : Int := t % 1000000000
def ex (t : Int) : Int := t / 1000000000
theorem wl_bd (t : Int) : 0 ≤ wl t ∧ wl t < 1000000000 := by unfold wl; omega
theorem wl_zero : wl 0 = 0 := rfl
theorem ex_zero : ex 0 = 0 := rfl

theorem before_any (t u : Int) (w : World) :
    Calls Try.prog 36 #[.agg #[.int .u64 (wl t), .int .i64 (ex t)], .agg #[.int .u64 (wl u), .int .i64 (ex u)]] w fun e w' =>
      e = .returned (.bool (decide (t < u))) ∧ Below w.heap.size w w' :=
  (before_raw _ _ _ _ w (wl_bd t).1 (wl_bd t).2 (wl_bd u).1 (wl_bd u).2).mono fun e w' ⟨he, hw⟩ => ⟨he.trans (bool_ret (by unfold wl ex; omega)), hw⟩

theorem after_any (t u : Int) (w : World) :
    Calls Try.prog 38 #[.agg #[.int .u64 (wl t), .int .i64 (ex t)], .agg #[.int .u64 (wl u), .int .i64 (ex u)]] w fun e w' =>
      e = .returned (.bool (decide (u < t))) ∧ Below w.heap.size w w' :=
  (after_raw _ _ _ _ w (wl_bd t).1 (wl_bd t).2 (wl_bd u).1 (wl_bd u).2).mono fun e w' ⟨he, hw⟩ => ⟨he.trans (bool_ret (by unfold wl ex; omega)), hw⟩

theorem equal_any (t u : Int) (w : World) :
    Calls Try.prog 48 #[.agg #[.int .u64 (wl t), .int .i64 (ex t)], .agg #[.int .u64 (wl u), .int .i64 (ex u)]] w fun e w' =>
      e = .returned (.bool (decide (t = u))) ∧ Below w.heap.size w w' :=
  (equal_raw _ _ _ _ w (wl_bd t).1 (wl_bd t).2 (wl_bd u).1 (wl_bd u).2).mono fun e w' ⟨he, hw⟩ => ⟨he.trans (bool_ret (by unfold wl ex; omega)), hw⟩

theorem isZero_any (t : Int) (w : World) :
    Calls Try.prog 37 #[.agg #[.int .u64 (wl t), .int .i64 (ex t)]] w fun e w' =>
      e = .returned (.bool (decide (t = 0))) ∧ Below w.heap.size w w' :=
  (isZero_raw _ _ w).mono fun e w' ⟨he, hw⟩ => ⟨he.trans (bool_ret (by unfold wl ex; omega)), hw⟩

theorem add_any (t d : Int) (w : World) (ht0 : 0 ≤ t) (ht1 : t ≤ 1000000000000000000000000000) (hd0 : -4611686018427387904 ≤ d) (hd1 : d ≤ 4611686018427387904) :
    Calls Try.prog 35 #[.agg #[.int .u64 (wl t), .int .i64 (ex t)], .int .i64 d] w fun e w' =>
      e = .returned (.agg #[.int .u64 (wl (t + d)), .int .i64 (ex (t + d))]) ∧ Below w.heap.size w w' :=
  (add_raw (wl t) (ex t) d w (wl_bd t).1 (wl_bd t).2 (by unfold ex; omega) (by unfold ex; omega) hd0 hd1).mono fun e w' ⟨he, hw⟩ =>
    ⟨he.trans (agg_ret (by unfold wl; omega) (by unfold wl ex; omega)), hw⟩

/-- Time 'ns' nanoseconds behind the beginning that the thin package takes. -/
def epoch : Int := 62136596800000000000
def tm (ns : Int) : Int := epoch + ns

set_option maxHeartbeats 400000 in
theorem zzTime_any (ns : Int) (w : World) (h0 : 0 ≤ ns) (h1 : ns ≤ 4611686018427387904) :
    Calls Try.prog 25 #[.int .i64 ns] w fun e w' => e = .returned (.agg #[.int .u64 (wl (tm ns)), .int .i64 (ex (tm ns))]) ∧ Below w.heap.size w w' := by
  have HA : ∀ W, Calls Try.prog 35 #[.agg #[.int .u64 0, .int .i64 62136596800], .int .i64 ns] W fun e w' =>
      e = .returned (.agg #[.int .u64 (wl (tm ns)), .int .i64 (ex (tm ns))]) ∧ Below W.heap.size W w' := fun W => add_any epoch ns W (by unfold epoch; omega) (by unfold epoch; omega) (by omega) (by omega)
  have H := Lib.hid HA
  clear HA
  go_enter Try.func25, Try.ntmps25
  go_wp2_with (first | (go_at_call 34; refine (unix_any _).mono ?_; rintro e w1 ⟨rfl, hb⟩; obtain ⟨hc, hf⟩ := bcell hb; have hz : w.heap.size < w1.heap.size := by have := hb.size; simp at this; omega) | (go_at_call 35; refine (H.out _).mono ?_; rintro e w2 ⟨rfl, hb2⟩; obtain ⟨hc2, hf2⟩ := bcell hb2; have hz2 : w.heap.size < w2.heap.size := Nat.lt_of_lt_of_le hz hb2.size))
  refine bodyPost_ret (v := .agg #[.int .u64 (wl (tm ns)), .int .i64 (ex (tm ns))]) (by simp [results, Try.results25, go_sem, hc, hc2, hz]) rfl ⟨rfl, ?_⟩
  exact ((((Below.refl _ _).alloc (Nat.le_refl _) _).trans (hb.mono (by simp))).trans (hb2.mono (by omega))).setCell (Nat.le_refl _) _ |>.setCell (Nat.le_refl _) _

end Go.Proofs.Ytpaociigfbibbaa
