/-
  FnPersistentCongestion, the plain law: what the calls of that statement lead to.
-/
import Derived.Test.YtpaociigfbibbaaStep
namespace Go.Proofs.Ytpaociigfbibbaa
open Go.RowKit

def smpCall (latest limit : Int) : Call := { kind := 6, space := 2, now := 1, time := 0, num := 0, size := 0, el := false, inf := false, v := false, latest := latest, delay := 0, limit := limit }
/-- When the packet i was sent. -/
def atG (gaps : List Int) (i : Nat) : Int := 10 + (gaps.take i).sum
def sentCall (gaps : List Int) (i : Nat) : Call := { kind := 0, space := 2, now := atG gaps i, time := atG gaps i, num := i, size := 1200, el := true, inf := true, v := false, latest := 0, delay := 0, limit := 0 }
/-- The packet i is lost, told at a time. -/
def lostCall (gaps : List Int) (now : Int) (i : Nat) : Call := { kind := 2, space := 2, now := now, time := atG gaps i, num := i, size := 1200, el := true, inf := true, v := false, latest := 0, delay := 0, limit := 0 }
def endCall (now limit : Int) : Call := { kind := 4, space := 2, now := now, time := 0, num := 0, size := 0, el := false, inf := false, v := false, latest := 0, delay := 0, limit := limit }

def sents (latest limit : Int) (gaps : List Int) (n : Nat) : List Call := smpCall latest limit :: (List.range n).map (sentCall gaps)
def persCalls (latest limit : Int) (gaps : List Int) (n : Nat) (now : Int) : List Call := (sents latest limit gaps n ++ (List.range n).map (lostCall gaps now)) ++ [endCall now limit]

theorem sents_succ (latest limit : Int) (gaps : List Int) (n : Nat) : sents latest limit gaps (n + 1) = sents latest limit gaps n ++ [sentCall gaps n] := by
  simp [sents, List.range_succ]
theorem sents_length (latest limit : Int) (gaps : List Int) (n : Nat) : (sents latest limit gaps n).length = n + 1 := by simp [sents]
theorem lost_succ (gaps : List Int) (now : Int) (n : Nat) : (List.range (n + 1)).map (lostCall gaps now) = (List.range n).map (lostCall gaps now) ++ [lostCall gaps now n] := by
  simp [List.range_succ]
theorem pers_length (latest limit : Int) (gaps : List Int) (n : Nat) (now : Int) : (persCalls latest limit gaps n now).length = 2 * n + 2 := by
  simp [persCalls, sents_length]; omega

theorem atG_zero (gaps : List Int) : atG gaps 0 = 10 := by simp [atG]
theorem atG_succ (gaps : List Int) {i : Nat} (h : i < gaps.length) : atG gaps (i + 1) = atG gaps i + gaps[i] := by
  unfold atG
  rw [List.take_succ_eq_append_getElem h, List.sum_append]
  simp; omega

/-- The first n gaps are as the statement asks. -/
def Gaps (gaps : List Int) (n : Nat) : Prop := ∀ i (h : i < gaps.length), i < n → 0 ≤ gaps[i] ∧ gaps[i] ≤ 68719476736

theorem atG_bd (gaps : List Int) (n : Nat) (hg : Gaps gaps n) (hn : n ≤ gaps.length) : ∀ i, i ≤ n → 10 ≤ atG gaps i ∧ atG gaps i ≤ 10 + 68719476736 * (i : Int)
  | 0, _ => by rw [atG_zero]; omega
  | i + 1, hi => by
    have ih := atG_bd gaps n hg hn i (by omega)
    have := hg i (by omega) (by omega)
    rw [atG_succ gaps (by omega)]
    omega
theorem atG_le (gaps : List Int) (n : Nat) (hg : Gaps gaps n) (hn : n ≤ gaps.length) {i : Nat} (hi : i < n) : atG gaps i ≤ atG gaps (i + 1) := by
  have := hg i (by omega) hi
  rw [atG_succ gaps (by omega)]
  omega

theorem good_smp (latest limit : Int) (h0 : 0 ≤ latest) (h1 : latest ≤ 1073741824) (h2 : 0 ≤ limit) (h3 : limit ≤ 1073741824) : Good (smpCall latest limit) := by
  constructor <;> simp only [smpCall] <;> omega
theorem good_sent (gaps : List Int) (n i : Nat) (hg : Gaps gaps n) (hn : n ≤ gaps.length) (hn1 : n ≤ 100) (hi : i ≤ n) : Good (sentCall gaps i) := by
  have := atG_bd gaps n hg hn i hi
  constructor <;> simp only [sentCall] <;> omega
theorem good_lost (gaps : List Int) (n i : Nat) (hg : Gaps gaps n) (hn : n ≤ gaps.length) (hn1 : n ≤ 100) (hi : i ≤ n) (now : Int) (h0 : 0 ≤ now) (h1 : now ≤ 17592186044416) : Good (lostCall gaps now i) := by
  have := atG_bd gaps n hg hn i hi
  constructor <;> simp only [lostCall] <;> omega
theorem good_end (now limit : Int) (h0 : 0 ≤ now) (h1 : now ≤ 17592186044416) (h2 : 0 ≤ limit) (h3 : limit ≤ 1073741824) : Good (endCall now limit) := by
  constructor <;> simp only [endCall] <;> omega
theorem good_pers (latest limit : Int) (gaps : List Int) (h0 : 0 ≤ latest) (h1 : latest ≤ 1073741824) (h2 : 0 ≤ limit) (h3 : limit ≤ 1073741824) (hg : Gaps gaps gaps.length) (hn1 : gaps.length ≤ 100) :
    ∀ o ∈ persCalls latest limit gaps (gaps.length + 1) (atG gaps gaps.length + 1), Good o := by
  have hb := atG_bd gaps gaps.length hg (Nat.le_refl _) gaps.length (Nat.le_refl _)
  intro o ho
  simp only [persCalls, sents, List.mem_append, List.mem_cons, List.mem_map, List.mem_range, List.not_mem_nil, or_false] at ho
  rcases ho with ((rfl | ⟨i, hi, rfl⟩) | ⟨i, hi, rfl⟩) | rfl
  · exact good_smp latest limit h0 h1 h2 h3
  · exact good_sent gaps gaps.length i hg (Nat.le_refl _) hn1 (by omega)
  · exact good_lost gaps gaps.length i hg (Nat.le_refl _) hn1 (by omega) _ (by omega) (by omega)
  · exact good_end _ limit (by omega) (by omega) h2 h3

/-- The estimates behind the one sample. -/
def persR (latest : Int) : Rtt := { least := latest, latest := latest, smooth := latest, dev := latest / 2, first := tm 1 }

theorem fold_sents (size latest limit : Int) (gaps : List Int) : ∀ n : Nat, (sents latest limit gaps n).foldl stepM (s0 size) = ⟨{ newC size with flight := 1200 * (n : Int) }, persR latest⟩
  | 0 => by
    show stepM (s0 size) (smpCall latest limit) = _
    simp [stepM, smpCall, s0, sampleR, newR, persR, newC]
  | n + 1 => by
    rw [sents_succ, List.foldl_append, fold_sents size latest limit gaps n]
    show stepM ⟨{ newC size with flight := 1200 * (n : Int) }, persR latest⟩ (sentCall gaps n) = _
    have e : (1200 : Int) * n + 1200 = 1200 * ((n + 1 : Nat) : Int) := by omega
    simp [stepM, sentCall, sentC, newC, e]

/-- The controller behind the loss of the first j + 1 packets. -/
def persC (size f t : Int) (j : Nat) : Ctl := { newC size with flight := f, last := tm t, s2 := tm 10, e2 := tm t, n2 := (j : Int) + 1 }

theorem fold_lost (size latest f : Int) (gaps : List Int) (n : Nat) (hg : Gaps gaps n) (hn : n ≤ gaps.length) (now : Int) : ∀ j : Nat, j ≤ n →
    ((List.range (j + 1)).map (lostCall gaps now)).foldl stepM ⟨{ newC size with flight := f }, persR latest⟩ = ⟨persC size (f - 1200 * ((j : Int) + 1)) (atG gaps j) j, persR latest⟩
  | 0, _ => by
    show stepM ⟨{ newC size with flight := f }, persR latest⟩ (lostCall gaps now 0) = _
    have hc : lostCall gaps now 0 = { kind := 2, space := 2, now := now, time := 10, num := 0, size := 1200, el := true, inf := true, v := false, latest := 0, delay := 0, limit := 0 } := by simp [lostCall, atG_zero]
    have e1 : validB (tm 1) (tm 10) true = true := by decide
    have e2 : (0 : Int) < tm 10 := by decide
    rw [hc, atG_zero]
    simp only [stepM, persR, markC, mark2, lossC, newC, persC]
    simp [e1, e2]
  | j + 1, hj => by
    have hb := atG_bd gaps n hg hn (j + 1) hj
    have hle := atG_le gaps n hg hn (i := j) (by omega)
    rw [lost_succ, List.foldl_append, fold_lost size latest f gaps n hg hn now j (by omega)]
    show stepM ⟨persC size (f - 1200 * ((j : Int) + 1)) (atG gaps j) j, persR latest⟩ (lostCall gaps now (j + 1)) = _
    have e1 : validB (tm 1) (tm (atG gaps (j + 1))) true = true := by
      have h : ¬ tm (atG gaps (j + 1)) < tm 1 := by unfold tm; omega
      have h2 : ¬ tm 1 = 0 := by decide
      simp [validB, h, h2]
    have e2 : (if tm (atG gaps j) < tm (atG gaps (j + 1)) then tm (atG gaps (j + 1)) else tm (atG gaps j)) = tm (atG gaps (j + 1)) := by
      unfold tm; split <;> omega
    have e3 : f - 1200 * ((j : Int) + 1) - 1200 = f - 1200 * ((j : Int) + 1 + 1) := by omega
    simp only [stepM, lostCall, persR, markC, mark2, lossC, newC, persC]
    simp [e1, e2, e3]

theorem fold_pers (size latest limit : Int) (gaps : List Int) (hg : Gaps gaps gaps.length) (now : Int) :
    (persCalls latest limit gaps (gaps.length + 1) now).foldl stepM (s0 size) = stepM ⟨persC size 0 (atG gaps gaps.length) gaps.length, persR latest⟩ (endCall now limit) := by
  unfold persCalls
  rw [List.foldl_append, List.foldl_append, fold_sents, fold_lost size latest _ gaps gaps.length hg (Nat.le_refl _) now gaps.length (Nat.le_refl _)]
  have e : 1200 * ((gaps.length + 1 : Nat) : Int) - 1200 * ((gaps.length : Int) + 1) = 0 := by omega
  rw [e]
  rfl

theorem stAt_all (size : Int) (ops : List Call) : stAt size ops ops.length = ops.foldl stepM (s0 size) := by
  unfold stAt
  rw [List.take_length]

/-- The duration of the statement. -/
def longOf (latest limit : Int) : Int := 3 * (latest + max (4 * (latest / 2)) 1000000 + limit)

theorem pers_end (size latest limit : Int) (gaps : List Int) (hg : Gaps gaps gaps.length) (now : Int) :
    ((longOf latest limit ≤ atG gaps gaps.length - 10) → (stAt size (persCalls latest limit gaps (gaps.length + 1) now) (persCalls latest limit gaps (gaps.length + 1) now).length).c.window = 2 * size ∧
      (stAt size (persCalls latest limit gaps (gaps.length + 1) now) (persCalls latest limit gaps (gaps.length + 1) now).length).r.least = latest) ∧
    (¬ (longOf latest limit ≤ atG gaps gaps.length - 10) → (stAt size (persCalls latest limit gaps (gaps.length + 1) now) (persCalls latest limit gaps (gaps.length + 1) now).length).c.window = max ((newC size).window / 2) (2 * size)) := by
  rw [stAt_all, fold_pers size latest limit gaps hg now]
  have hb := atG_bd gaps gaps.length hg (Nat.le_refl _) gaps.length (Nat.le_refl _)
  generalize atG gaps gaps.length = T at hb ⊢
  have hT : 0 < tm T := by have : 0 < epoch := by decide
                           unfold tm; omega
  have e1 : lossB (persC size 0 T gaps.length) = true := by
    have h1 : ¬ tm T = 0 := by omega
    have h2 : ¬ tm T < 0 := by omega
    simp [lossB, persC, newC, h1, h2]
  have e2 : endA (persC size 0 T gaps.length) (tm now) = enterC (persC size 0 T gaps.length) (tm now) := by simp [endA, e1]
  have e3 : persB 2 (enterC (persC size 0 T gaps.length) (tm now)) (persR latest) limit = decide (longOf latest limit ≤ T - 10) := by
    have h1 : ¬ tm T = 0 := by omega
    have h2 : durOf (persR latest) limit = longOf latest limit := by simp only [durOf, longOf, persR]; omega
    have h3 : tm T - tm 10 = T - 10 := by unfold tm; omega
    simp [persB, enterC, persC, newC, eOf, sOf, h1, h2, h3]
  have e4 : stepM ⟨persC size 0 T gaps.length, persR latest⟩ (endCall now limit) = ⟨endB 2 (endA (persC size 0 T gaps.length) (tm now)) (persR latest) limit, endR 2 (endA (persC size 0 T gaps.length) (tm now)) (persR latest) limit⟩ := rfl
  rw [e4, e2]
  constructor
  · intro h
    simp only [endB, endR, e3, decide_eq_true h, if_true]
    exact ⟨rfl, rfl⟩
  · intro h
    simp only [endB, e3, decide_eq_false h, Bool.false_eq_true, if_false]
    rfl

end Go.Proofs.Ytpaociigfbibbaa
