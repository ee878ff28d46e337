/-
  Words for FnPersistentCongestion's walk: rows of calls that the function makes itself, changed in place; its argument.
-/
import Derived.Test.YtpaociigfbibbaaPersLaw
import Derived.Test.YtpaociigfbibbaaFirst
import Derived.Test.YtpaociigfbibbaaOpen
namespace Go.Proofs.Ytpaociigfbibbaa
open Go.RowKit

theorem flat_append (a b : List Call) : flat (a ++ b) = flat a ++ flat b := by simp [flat]
theorem oneCell_flat (l : List Call) : ∀ u ∈ flat l, u.oneCell' = true := by
  intro u hu
  simp only [flat, List.mem_flatMap] at hu
  obtain ⟨o, _, ho⟩ := hu
  exact oneCell_opVals o u ho
theorem flat_one (o : Call) : flat [o] = opVals o := by simp [flat]

theorem own_first (w : World) (o : Call) : (w.alloc (.cells (opVals o).toArray 24)).ownsRow w.heap.size 24 12 (.slice (some ⟨w.heap.size, 0, none⟩) 1 1) 1 (flat [o]) := by
  refine ⟨by rw [flat_one]; rfl, .inr ⟨w.heap.size, 1, (opVals o).toArray, rfl, Nat.le_refl _, heap_alloc_new w _, Nat.le_refl _, by decide, rfl, by rw [flat_one]; rfl⟩⟩

theorem own_far {w w' : World} {base : Nat} {e : TypeId} {size n : Nat} {v : Value} {xs : List Value} {row : Option Nat} (h : w.ownsRow base e size v n xs) (hg : w.grownBy w' row) (hne : ∀ x, v.ownBlock = some x → row ≠ some x) : w'.ownsRow base e size v n xs := by
  refine ⟨h.1, ?_⟩
  rcases h.2 with h0 | ⟨g, cap, cur, hv, hb, hh, h3⟩
  · exact .inl h0
  · refine .inr ⟨g, cap, cur, hv, hb, ?_, h3⟩
    have hlt : g < w.heap.size := by
      rcases Nat.lt_or_ge g w.heap.size with hlt | hge
      · exact hlt
      · rw [Array.getElem?_eq_none hge] at hh; cases hh
    have := hne g (by rw [hv]; rfl)
    rw [hg.block g hlt (fun h => this h.symm)]
    exact hh

theorem own_lt {w : World} {base : Nat} {e : TypeId} {size n : Nat} {v : Value} {xs : List Value} (h : w.ownsRow base e size v n xs) : ∀ x, v.ownBlock = some x → x < w.heap.size := by
  intro x hx
  rcases h.2 with ⟨rfl, _⟩ | ⟨g, cap, cur, rfl, hb, hh, _⟩
  · simp [Value.ownBlock] at hx
  · simp [Value.ownBlock] at hx
    subst hx
    rcases Nat.lt_or_ge g w.heap.size with hlt | hge
    · exact hlt
    · rw [Array.getElem?_eq_none hge] at hh; cases hh

theorem own_frozen {w : World} {base : Nat} {e : TypeId} {size n g c : Nat} {xs : List Value} (h : w.ownsRow base e size (.slice (some ⟨g, 0, none⟩) n c) n xs) (i : Nat) : w.frozen? ⟨g, i, none⟩ = false := by
  rcases h.2 with ⟨h0, _⟩ | ⟨g', cap, cur, hv, hb, hh, _⟩
  · cases h0
  · injection hv with e1
    injection e1 with e1
    injection e1 with e1
    subst e1
    simp [World.frozen?, hh]

theorem own_cell {w : World} {base : Nat} {e : TypeId} {n g c : Nat} {l : List Call} (h : w.ownsRow base e 12 (.slice (some ⟨g, 0, none⟩) n c) n (flat l)) {k j : Nat} (hk : k < l.length) (hj : j < 12) {v : Value} (hv : (opVals l[k])[j]? = some v) : w.cell? ⟨g, k * 12 + j, none⟩ = some v := by
  have := h.cells (g := g) rfl (k * 12 + j) v (by rw [flat_at l hk hj]; exact hv)
  rw [add_off] at this
  exact this

theorem take_set {α : Type} (l : List α) (i m : Nat) (v : α) : (l.set i v).take m = (l.take m).set i v := List.take_set

theorem flat_set (l : List Call) (k : Nat) (hk : k < l.length) (o : Call) (t : Int) (ho : o = { l[k] with now := t }) : flat (l.set k o) = (flat l).set (k * 12 + 2) (.int .i64 t) := by
  subst ho
  apply List.ext_getElem?
  intro i
  by_cases hi : i < l.length * 12
  · have e1 : i = (i / 12) * 12 + i % 12 := by omega
    have hq : i / 12 < l.length := by omega
    have hr : i % 12 < 12 := by omega
    rw [e1, flat_at _ (by rw [List.length_set]; exact hq) hr, List.getElem?_set]
    by_cases hkq : k = i / 12
    · subst hkq
      rw [List.getElem_set_self]
      by_cases hj : i % 12 = 2
      · rw [hj, if_pos rfl, if_pos (by rw [flat_length]; omega)]
        rfl
      · rw [if_neg (by omega), flat_at l hq hr]
        have : ∀ j, j < 12 → j ≠ 2 → (opVals { l[i / 12] with now := t })[j]? = (opVals l[i / 12])[j]? := by
          intro j hj1 hj2
          match j, hj1, hj2 with
          | 0, _, _ => rfl
          | 1, _, _ => rfl
          | 3, _, _ => rfl
          | 4, _, _ => rfl
          | 5, _, _ => rfl
          | 6, _, _ => rfl
          | 7, _, _ => rfl
          | 8, _, _ => rfl
          | 9, _, _ => rfl
          | 10, _, _ => rfl
          | 11, _, _ => rfl
          | j + 12, h, _ => omega
        exact this _ hr hj
    · rw [if_neg (by omega), flat_at l hq hr, List.getElem_set_ne (by omega)]
  · rw [List.getElem?_eq_none (by rw [flat_length, List.length_set]; omega), List.getElem?_eq_none (by rw [List.length_set, flat_length]; omega)]

theorem own_set {w : World} {base : Nat} {e : TypeId} {n g c : Nat} {l : List Call} (h : w.ownsRow base e 12 (.slice (some ⟨g, 0, none⟩) n c) n (flat l)) (k : Nat) (hk : k < l.length) (o : Call) (t : Int) (ho : o = { l[k] with now := t }) :
    (w.setCell ⟨g, k * 12 + 2, none⟩ (.int .i64 t)).ownsRow base e 12 (.slice (some ⟨g, 0, none⟩) n c) n (flat (l.set k o)) := by
  rw [flat_set l k hk o t ho]
  refine ⟨by rw [List.length_set]; exact h.1, ?_⟩
  rcases h.2 with ⟨h0, _⟩ | ⟨g', cap, cur, hv, hb, hh, h1, h2, h3, h4⟩
  · cases h0
  · injection hv with e1 e2 e3
    injection e1 with e1
    injection e1 with e1
    subst e1 e3
    refine .inr ⟨g, c, cur.setIfInBounds (k * 12 + 2) (.int .i64 t), rfl, hb, ?_, h1, h2, by rw [Array.size_setIfInBounds]; exact h3, ?_⟩
    · simp [World.setCell, Array.getElem?_modify, hh]
    · rw [Array.toList_setIfInBounds, take_set, h4]

/-- A slice of numbers that came in. -/
def GapsAt (w : World) (B : Nat) (A : Option Addr) (gaps : List Int) : Prop :=
  0 < gaps.length → ∃ b off, A = some ⟨b, off, none⟩ ∧ b < B ∧ ∀ k (hk : k < gaps.length), w.cell? ⟨b, off + k, none⟩ = some (.int .i64 gaps[k])

/-- The packets as they lie before their loss is told. -/
def lostZ (gaps : List Int) (i : Nat) : Call := lostCall gaps (atG gaps i) i
def losts0 (gaps : List Int) (n : Nat) : List Call := (List.range n).map (lostZ gaps)
theorem losts0_succ (gaps : List Int) (n : Nat) : losts0 gaps (n + 1) = losts0 gaps n ++ [lostZ gaps n] := by simp [losts0, List.range_succ]
theorem losts0_length (gaps : List Int) (n : Nat) : (losts0 gaps n).length = n := by simp [losts0]
/-- The first k are told. -/
def lostsK (gaps : List Int) (now : Int) (n k : Nat) : List Call := (List.range n).map fun i => if i < k then lostCall gaps now i else lostZ gaps i
theorem lostsK_length (gaps : List Int) (now : Int) (n k : Nat) : (lostsK gaps now n k).length = n := by simp [lostsK]
theorem lostsK_zero (gaps : List Int) (now : Int) (n : Nat) : lostsK gaps now n 0 = losts0 gaps n := by simp [lostsK, losts0]
theorem lostsK_all (gaps : List Int) (now : Int) (n : Nat) : lostsK gaps now n n = (List.range n).map (lostCall gaps now) := by
  apply List.ext_getElem
  · simp [lostsK]
  · intro i h1 h2
    have : i < n := by simpa [lostsK] using h1
    simp [lostsK, this]
theorem lostsK_at (gaps : List Int) (now : Int) (n k : Nat) (h : k < (lostsK gaps now n k).length) : (lostsK gaps now n k)[k] = lostZ gaps k := by simp [lostsK]
theorem lostsK_succ (gaps : List Int) (now : Int) (n k : Nat) : (lostsK gaps now n k).set k (lostCall gaps now k) = lostsK gaps now n (k + 1) := by
  apply List.ext_getElem
  · simp [lostsK]
  · intro i h1 h2
    have hi : i < n := by simpa [lostsK] using h2
    by_cases he : k = i
    · subst he
      simp [lostsK]
    · rw [List.getElem_set_ne he]
      by_cases hlt : i < k
      · have : i < k + 1 := by omega
        simp [lostsK, hlt, this]
      · have : ¬ i < k + 1 := by omega
        simp [lostsK, hlt, this]

end Go.Proofs.Ytpaociigfbibbaa
