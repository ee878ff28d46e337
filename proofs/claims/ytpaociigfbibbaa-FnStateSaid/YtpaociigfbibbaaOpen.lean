/-
  An argument that is a slice of calls, opened; the row's last step for a function of (size, calls) that leaves 'Below'.
-/
import Derived.Test.YtpaociigfbibbaaShut
import Derived.Test.YtpaociigfbibbaaWords
import Derived.Deep.Slices
import Derived.Deep.Fields
import Derived.ChangeSame
import Derived.WideKeyArgs
namespace Go.Proofs.Ytpaociigfbibbaa
open Go.ChangeShapes Go.WideShapes Go.ChangeAt Go.RowKit Go.Deep

theorem Try.laidOut : laidOutB Try.prog = true := by kernel_rfl
theorem Try.readable22 : Try.prog.readableRec 22 = true := by kernel_rfl

theorem listed {α : Type} {p : Nat → α → Prop} : ∀ (n : Nat), (∀ i, i < n → ∃ x, p i x) → ∃ l : List α, l.length = n ∧ ∀ i (hi : i < l.length), p i l[i]
  | 0, _ => ⟨[], rfl, fun i hi => by simp at hi⟩
  | n + 1, h => by
    obtain ⟨l, hl, hp⟩ := listed n (fun i hi => h i (by omega))
    obtain ⟨x, hx⟩ := h n (by omega)
    refine ⟨l ++ [x], by simp [hl], fun i hi => ?_⟩
    by_cases hlt : i < l.length
    · rw [List.getElem_append_left hlt]; exact hp i hlt
    · have : i = n := by simp at hi; omega
      subst this
      rw [List.getElem_append_right (by omega)]
      simpa using hx

section
variable {H : Type} {enc : TypeId × Value → H} {w : World} {base : Nat} {spare : Nat → Bool} {held : Bool}
theorem Try.cells2 : Try.prog.cellsOf 2 = 1 := by kernel_rfl
theorem Try.cells3 : Try.prog.cellsOf 3 = 1 := by kernel_rfl
theorem Try.cells4 : Try.prog.cellsOf 4 = 1 := by kernel_rfl
theorem read_int {n : Nat} {k : IntKind} {t : TypeId} {v : Value} {cs : List Value} {q : Option (DataW H × List MemPlace)} (ht : Try.prog.underlying t = some (.int k)) (hC : Try.prog.cellsOf t = 1) (hv : cs.take 1 = [v]) (hq : q.isSome = true)
    (h : DataW.trod enc Try.prog w base spare held n t (cs.take (Try.prog.cellsOf t)) = q) : ∃ z, v = .int k z := by
  obtain ⟨y, rfl⟩ := Option.isSome_iff_exists.1 hq
  rw [hC, hv] at h
  obtain ⟨z, hz, _⟩ := DataW.trod_int ht h
  exact ⟨z, by simpa using hz⟩
theorem read_bool {n : Nat} {t : TypeId} {v : Value} {cs : List Value} {q : Option (DataW H × List MemPlace)} (ht : Try.prog.underlying t = some .bool) (hC : Try.prog.cellsOf t = 1) (hv : cs.take 1 = [v]) (hq : q.isSome = true)
    (h : DataW.trod enc Try.prog w base spare held n t (cs.take (Try.prog.cellsOf t)) = q) : ∃ z, v = .bool z := by
  obtain ⟨y, rfl⟩ := Option.isSome_iff_exists.1 hq
  rw [hC, hv] at h
  obtain ⟨z, hz, _⟩ := DataW.trod_bool ht h
  exact ⟨z, by simpa using hz⟩

theorem opened {n : Nat} {a : Addr} (h : ∀ i, i < n → ∃ o : Call, ∀ j v, (opVals o)[j]? = some v → w.cell? (a.add (i * 12 + j)) = some v) :
    ∃ ops : List Call, ops.length = n ∧ OpsAt w w.heap.size (some a) ops := by
  obtain ⟨ops, hl, hp⟩ := listed n h
  refine ⟨ops, hl, fun hpos => ?_⟩
  have h0 := hp 0 hpos 0 _ rfl
  obtain ⟨b, off, sp⟩ := a
  have ha : (⟨b, off, sp⟩ : Addr).add (0 * 12 + 0) = ⟨b, off, sp⟩ := rfl
  rw [ha] at h0
  have hsp : sp = none := by
    unfold World.cell? at h0
    split at h0
    · split at h0
      · cases h0
      · rename_i hns; cases sp
        · rfl
        · simp at hns
    · cases h0
  subst hsp
  have hlt : b < w.heap.size := by
    rcases Nat.lt_or_ge b w.heap.size with hlt | hge
    · exact hlt
    · unfold World.cell? at h0
      rw [Array.getElem?_eq_none hge] at h0
      cases h0
  refine ⟨b, off, rfl, hlt, fun k hk j v hv => ?_⟩
  have := hp k hk j v hv
  have hadd : (⟨b, off, none⟩ : Addr).add (k * 12 + j) = ⟨b, off + k * 12 + j, none⟩ := by
    unfold Addr.add
    split
    · simp only [Addr.mk.injEq, and_true, true_and]; omega
    · simp; omega
  rw [hadd] at this
  exact this

theorem open_ops {b0 : Nat} {r : Reach} {v : Value} {d : DataW H} {ps : List MemPlace} (hval : Value.okWide Try.prog w r b0 22 v) (h : DataW.Trod enc Try.prog w base (fun _ => true) held 22 v d ps) :
    ∃ (A : Option Addr) (ops : List Call) (cap : Nat), v = .slice A ops.length cap ∧ OpsAt w w.heap.size A ops := by
  obtain ⟨a, len, cap, rfl⟩ := okWide_slice Try.underlying22 hval
  obtain ⟨fuel, hf⟩ := h
  rcases open_slice Try.underlying22 hf with ⟨h0, _⟩ | ⟨a', len', cap', m, n, D, Pl, hcs, _, hl, _, hmm, _, hi⟩
  · simp [Value.cells] at h0
    obtain ⟨rfl, rfl, rfl⟩ := h0
    exact ⟨none, [], 0, rfl, fun hp => by simp at hp⟩
  · simp [Value.cells] at hcs
    obtain ⟨rfl, rfl, rfl⟩ := hcs
    have hC : Try.prog.cellsOf 24 = 12 := by kernel_rfl
    have hel : ∀ i, i < len → ∃ o : Call, ∀ j v, (opVals o)[j]? = some v → w.cell? (a'.add (i * 12 + j)) = some v := by
      intro i hilt
      obtain ⟨cs', hc, ht'⟩ := hi i (by simp at hmm; omega)
      rw [hC] at hc
      obtain ⟨ys, n', hn', hy, hlen, hyl, hfl⟩ := DataW.trod_struct Try.underlying24 ht'
      obtain ⟨_, hcl, hat⟩ := World.cells?_some hc
      match cs', hcl with
      | [c0, c1, c2, c3, c4, c5, c6, c7, c8, c9, c10, c11], _ =>
        have hys : ∀ j, j < 12 → (ys[j]?).isSome = true := fun j hj => by
          have : ys.length = 12 := hyl
          simp; omega
        obtain ⟨z0, rfl⟩ := read_int Try.underlying3 Try.cells3 rfl (hys 0 (by decide)) (hfl 0 _ rfl)
        obtain ⟨z1, rfl⟩ := read_int Try.underlying3 Try.cells3 rfl (hys 1 (by decide)) (hfl 1 _ rfl)
        obtain ⟨z2, rfl⟩ := read_int Try.underlying2 Try.cells2 rfl (hys 2 (by decide)) (hfl 2 _ rfl)
        obtain ⟨z3, rfl⟩ := read_int Try.underlying2 Try.cells2 rfl (hys 3 (by decide)) (hfl 3 _ rfl)
        obtain ⟨z4, rfl⟩ := read_int Try.underlying2 Try.cells2 rfl (hys 4 (by decide)) (hfl 4 _ rfl)
        obtain ⟨z5, rfl⟩ := read_int Try.underlying3 Try.cells3 rfl (hys 5 (by decide)) (hfl 5 _ rfl)
        obtain ⟨z6, rfl⟩ := read_bool Try.underlying4 Try.cells4 rfl (hys 6 (by decide)) (hfl 6 _ rfl)
        obtain ⟨z7, rfl⟩ := read_bool Try.underlying4 Try.cells4 rfl (hys 7 (by decide)) (hfl 7 _ rfl)
        obtain ⟨z8, rfl⟩ := read_bool Try.underlying4 Try.cells4 rfl (hys 8 (by decide)) (hfl 8 _ rfl)
        obtain ⟨z9, rfl⟩ := read_int Try.underlying2 Try.cells2 rfl (hys 9 (by decide)) (hfl 9 _ rfl)
        obtain ⟨z10, rfl⟩ := read_int Try.underlying2 Try.cells2 rfl (hys 10 (by decide)) (hfl 10 _ rfl)
        obtain ⟨z11, rfl⟩ := read_int Try.underlying2 Try.cells2 rfl (hys 11 (by decide)) (hfl 11 _ rfl)
        refine ⟨⟨z0, z1, z2, z3, z4, z5, z6, z7, z8, z9, z10, z11⟩, fun j v hv => ?_⟩
        have hj : j < 12 := (List.getElem?_eq_some_iff.1 hv).1
        have := hat j hj
        rw [Go.Deep.add_add] at this
        exact this.trans hv
    obtain ⟨ops, hl', ho⟩ := opened hel
    exact ⟨some a', ops, cap, by rw [hl'], ho⟩
end

end Go.Proofs.Ytpaociigfbibbaa
