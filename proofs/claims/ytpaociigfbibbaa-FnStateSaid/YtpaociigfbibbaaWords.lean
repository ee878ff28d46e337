/-
  Words for slices of calls and of states: rows that the program itself makes.
-/
import Derived.Test.YtpaociigfbibbaaModel
import Derived.Deep.AppendLies
import Derived.Deep.LoopGhost
import Derived.WalkSpells
import Derived.Lib.Hide
namespace Go.Proofs.Ytpaociigfbibbaa
open Go.RowKit

theorem Try.info44 : (Try.prog.info? 44).map (fun i => (i.zero, i.size, i.bytes)) = some (some (.agg #[.int .i64 0, .int .i64 0, .int .i64 0, .int .i64 0, .int .i64 0, .int .i64 0, .bool false, .bool false, .bool false, .int .i64 0, .int .i64 0, .int .i64 0]), 12, 80) := by kernel_rfl
theorem Try.info34 : (Try.prog.info? 34).map (fun i => (i.zero, i.size, i.bytes)) = some (some (.agg #[.int .i64 0, .int .i64 0, .int .i64 0, .int .i64 0, .int .i64 0, .int .i64 0, .bool false, .bool false, .bool false, .int .i64 0, .int .i64 0, .int .i64 0]), 12, 80) := by kernel_rfl
theorem Try.info24 : (Try.prog.info? 24).map (fun i => (i.zero, i.size, i.bytes)) = some (some (.agg #[.int .i64 0, .int .i64 0, .int .i64 0, .int .i64 0, .int .i64 0, .int .i64 0, .bool false, .bool false, .bool false, .int .i64 0, .int .i64 0, .int .i64 0]), 12, 80) := by kernel_rfl
theorem Try.info47 : (Try.prog.info? 47).map (fun i => (i.zero, i.size, i.bytes)) = some (some (.agg #[.int .i64 0, .int .i64 0, .int .i64 0, .int .i64 0, .bool false, .bool false, .bool false, .string ⟨#[]⟩, .int .i64 0, .int .i64 0, .int .i64 0]), 11, 80) := by kernel_rfl
theorem Try.info28 : (Try.prog.info? 28).map (fun i => (i.zero, i.size, i.bytes)) = some (some (.agg #[.int .i64 0, .int .i64 0, .int .i64 0, .int .i64 0, .bool false, .bool false, .bool false, .string ⟨#[]⟩, .int .i64 0, .int .i64 0, .int .i64 0]), 11, 80) := by kernel_rfl

/-- A call's twelve cells. -/
def opVals (o : Call) : List Value := [.int .i64 o.kind, .int .i64 o.space, .int .i64 o.now, .int .i64 o.time, .int .i64 o.num, .int .i64 o.size, .bool o.el, .bool o.inf, .bool o.v, .int .i64 o.latest, .int .i64 o.delay, .int .i64 o.limit]
def flat (l : List Call) : List Value := l.flatMap opVals

theorem opVals_length (o : Call) : (opVals o).length = 12 := rfl
theorem flat_snoc (l : List Call) (o : Call) : flat (l ++ [o]) = flat l ++ opVals o := by simp [flat]
theorem flat_take (l : List Call) {k : Nat} (h : k < l.length) : flat (l.take (k + 1)) = flat (l.take k) ++ opVals l[k] := by
  rw [List.take_succ_eq_append_getElem h, flat_snoc]
theorem flat_length (l : List Call) : (flat l).length = l.length * 12 := by
  induction l with
  | nil => rfl
  | cons o l ih =>
    have : flat (o :: l) = opVals o ++ flat l := rfl
    rw [this, List.length_append, opVals_length, ih, List.length_cons]; omega
theorem flat_at (l : List Call) {k j : Nat} (hk : k < l.length) (hj : j < 12) : (flat l)[k * 12 + j]? = (opVals l[k])[j]? := by
  induction l generalizing k with
  | nil => simp at hk
  | cons o l ih =>
    cases k with
    | zero =>
      simp only [flat, List.flatMap_cons, Nat.zero_mul, Nat.zero_add, List.getElem_cons_zero]
      rw [List.getElem?_append_left (by rw [opVals_length]; exact hj)]
    | succ k =>
      have hk' : k < l.length := by simpa using hk
      have := ih hk'
      simp only [flat, List.flatMap_cons, List.getElem_cons_succ] at this ⊢
      rw [List.getElem?_append_right (by rw [opVals_length]; omega), opVals_length, show (k + 1) * 12 + j - 12 = k * 12 + j from by omega]
      exact this
theorem oneCell_opVals (o : Call) : ∀ u ∈ opVals o, u.oneCell' = true := by
  intro u hu
  simp only [opVals, List.mem_cons, List.not_mem_nil, or_false] at hu
  rcases hu with rfl | rfl | rfl | rfl | rfl | rfl | rfl | rfl | rfl | rfl | rfl | rfl <;> rfl

/-- A slice of calls: the address is asked for only where there is an element. -/
def OpsAt (w : World) (B : Nat) (A : Option Addr) (ops : List Call) : Prop :=
  0 < ops.length → ∃ b off, A = some ⟨b, off, none⟩ ∧ b < B ∧ ∀ k (hk : k < ops.length), ∀ j v, (opVals ops[k])[j]? = some v → w.cell? ⟨b, off + k * 12 + j, none⟩ = some v

theorem OpsAt.keep {w w' : World} {B : Nat} {A : Option Addr} {ops : List Call} (h : OpsAt w B A ops) (hb : Below B w w') : OpsAt w' B A ops := by
  intro hl
  obtain ⟨b, off, hA, hlt, hc⟩ := h hl
  exact ⟨b, off, hA, hlt, fun k hk j v hv => (hb.cell (p := ⟨b, _, none⟩) hlt).trans (hc k hk j v hv)⟩
theorem OpsAt.more {w : World} {B B' : Nat} {A : Option Addr} {ops : List Call} (h : OpsAt w B A ops) (hB : B ≤ B') : OpsAt w B' A ops := by
  intro hl
  obtain ⟨b, off, hA, hlt, hc⟩ := h hl
  exact ⟨b, off, hA, by omega, hc⟩
theorem add_off (g j : Nat) : (⟨g, 0, none⟩ : Addr).add j = ⟨g, j, none⟩ := by unfold Addr.add; split <;> simp_all
theorem OpsAt.of_own {w : World} {base : Nat} {e : TypeId} {A : Option Addr} {n c : Nat} {ops : List Call} (h : w.ownsRow base e 12 (.slice A n c) ops.length (flat ops)) : OpsAt w w.heap.size A ops := by
  intro hl
  obtain ⟨g, cap, hv, _, hlt⟩ := h.form hl
  have hA : A = some ⟨g, 0, none⟩ := by injection hv
  subst hA
  refine ⟨g, 0, rfl, hlt, fun k hk j v hv => ?_⟩
  have hj : j < 12 := by
    have := List.getElem?_eq_some_iff.1 hv
    obtain ⟨h1, _⟩ := this
    simpa [opVals_length] using h1
  have := h.cells (g := g) rfl (k * 12 + j) v (by rw [flat_at ops hk hj]; exact hv)
  rw [add_off] at this
  simpa using this

theorem news_two (w : World) (o1 : Obj) (cs : List Value) (t : TypeId) : ∀ j u, cs[j]? = some u → ((w.alloc o1).alloc (.cells cs.toArray t)).cell? ((⟨w.heap.size + 1, 0, none⟩ : Addr).add j) = some u := by
  have h1 := heap_alloc_new (w.alloc o1) (.cells cs.toArray t)
  have h2 : ((w.alloc o1).alloc (.cells cs.toArray t)).heap[w.heap.size + 1]? = some (.cells cs.toArray t) := by simpa using h1
  have h := World.news_of_block h2
  intro j u hu
  exact h j u (by simpa using hu)
theorem own_ge {w : World} {base : Nat} {e : TypeId} {size n : Nat} {v : Value} {xs : List Value} (h : w.ownsRow base e size v n xs) : ∀ k, v.ownBlock = some k → base ≤ k := by
  intro k hk
  rcases h.2 with ⟨rfl, _⟩ | ⟨g, cap, cur, rfl, hb, _⟩
  · simp [Value.ownBlock] at hk
  · simp [Value.ownBlock] at hk; omega
theorem own_keep {w w' : World} {base : Nat} {e : TypeId} {size n : Nat} {v : Value} {xs : List Value} (h : w.ownsRow base e size v n xs) (hb : Below w.heap.size w w') : w'.ownsRow base e size v n xs := by
  refine ⟨h.1, ?_⟩
  rcases h.2 with h0 | ⟨g, cap, cur, hv, hg, hh, h3⟩
  · exact .inl h0
  · refine .inr ⟨g, cap, cur, hv, hg, ?_, h3⟩
    have hlt : g < w.heap.size := by
      rcases Nat.lt_or_ge g w.heap.size with hlt | hge
      · exact hlt
      · rw [Array.getElem?_eq_none hge] at hh; cases hh
    rw [hb.block g hlt]; exact hh

end Go.Proofs.Ytpaociigfbibbaa
