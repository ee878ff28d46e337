/- FnPersistentCongestion returns true for every call of it: no condition. -/
import Derived.Test.YtpaociigfbibbaaPers
import Derived.ChangeSlices
namespace Go.Proofs.Ytpaociigfbibbaa
open Go.ChangeShapes Go.WideShapes Go.ChangeAt Go.RowKit

theorem Try.readable36 : Try.prog.readableRec 36 = true := by kernel_rfl

theorem open_gaps {H : Type} {enc : TypeId × Value → H} {w : World} {base : Nat} {held : Bool} {b0 : Nat} {r : Reach} {v : Value} {d : DataW H} {ps : List MemPlace} (hval : Value.okWide Try.prog w r b0 36 v)
    (h : DataW.Trod enc Try.prog w base (fun _ => true) held 36 v d ps) : ∃ (A : Option Addr) (gaps : List Int) (cap : Nat), v = .slice A gaps.length cap ∧ GapsAt w w.heap.size A gaps := by
  obtain ⟨a, len, cap, rfl⟩ := okWide_slice Try.underlying36 hval
  obtain ⟨fuel, hf⟩ := h
  rcases open_ints Try.underlying36 Try.underlying2 Try.cells2 hf with ⟨h0, _⟩ | ⟨a', len', cap', zs, hcs, _, hl, _, hz, _, hc, _⟩
  · simp [Value.cells] at h0
    obtain ⟨rfl, rfl, rfl⟩ := h0
    exact ⟨none, [], 0, rfl, fun hp => by simp at hp⟩
  · simp [Value.cells] at hcs
    obtain ⟨rfl, rfl, rfl⟩ := hcs
    have hzl : zs.length = cap := by simpa using hz
    refine ⟨some a', zs.take len, cap, by rw [List.length_take, hzl, Nat.min_eq_left hl], fun hp => ?_⟩
    have hlen : (zs.take len).length = len := by rw [List.length_take, hzl, Nat.min_eq_left hl]
    rw [hlen] at hp
    have h0 := hc 0 (by omega)
    obtain ⟨b, off, sp⟩ := a'
    have ha : (⟨b, off, sp⟩ : Addr).add 0 = ⟨b, off, sp⟩ := rfl
    rw [ha] at h0
    have hsp : sp = none := by
      unfold World.cell? at h0
      split at h0
      · split at h0
        · cases h0
        · rename_i hns; cases sp
          · rfl
          · simp at hns
      · cases h0
    subst hsp
    have hlt : b < w.heap.size := by
      rcases Nat.lt_or_ge b w.heap.size with hlt | hge
      · exact hlt
      · unfold World.cell? at h0
        rw [Array.getElem?_eq_none hge] at h0
        cases h0
    refine ⟨b, off, rfl, hlt, fun k hk => ?_⟩
    rw [hlen] at hk
    have := hc k (by omega)
    have hadd : (⟨b, off, none⟩ : Addr).add k = ⟨b, off + k, none⟩ := by
      unfold Addr.add
      split
      · simp only [Addr.mk.injEq, and_true, true_and]; omega
      · simp
    rw [hadd] at this
    have hkz : k < zs.length := by omega
    have e : zs.getD k 0 = zs[k] := by simp [List.getD_eq_getElem?_getD, List.getElem?_eq_getElem hkz]
    rw [this, List.getElem_take, e]

set_option maxRecDepth 100000 in
theorem pers_lifted (os : Os) (started : os.Started) (H : Type) (enc : TypeId × Value → H) :
    ReturnsInHanded {} Try.checked os 7 .any (Rows.fnPersistentCongestionSpec.pre6 enc Try.prog Try.f7 Rows.fnPersistentCongestionRow.domain false) (Rows.fnPersistentCongestionSpec.post enc Try.prog Try.f7 false true false false) := by
  refine returnsInHanded_of_change (C := Try.checked) Try.own started (by kernel_rfl) Try.func7
    (ChangeSpec.witness6 (enc := enc) (C := Try.checked) false ⟨#[], #[.int .i64 0, .int .i64 0, .int .i64 0, .slice none 0 0], []⟩ 8 (by kernel_rfl) (by kernel_rfl) (by kernel_rfl) (by kernel_rfl)) ?_
  intro W base args ds gs before hval0 hW hcnd _
  have hval : ∀ (j : Nat) t v, Try.f7.params[j]? = some t → args[j]? = some v → Value.okWide Try.prog W .any base t v := hval0
  have hW' := hW
  obtain ⟨p, q, hA0, hV, rfl, hfz, hnd⟩ := hW
  have hA : DataW.TrodAll enc Try.prog W 0 (fun _ => true) true Try.f7.params.toList args.toList ds p := hA0
  rw [Try.params7] at hA hval
  obtain ⟨v0, vs0, d0, ds0, p0, q0, hargs, rfl, rfl, h0, r0⟩ := trodAll_cons hA
  obtain ⟨v1, vs1, d1, ds1, p1, q1, hargs1, rfl, rfl, h1, r1⟩ := trodAll_cons r0
  obtain ⟨v2, vs2, d2, ds2, p2, q2, hargs2, rfl, rfl, h2, r2⟩ := trodAll_cons r1
  obtain ⟨v3, vs3, d3, ds3, p3, q3, hargs3, rfl, rfl, h3, r3⟩ := trodAll_cons r2
  obtain ⟨rfl, rfl, rfl⟩ := trodAll_nil r3
  obtain rfl : args = #[v0, v1, v2, v3] := by cases args; simp_all
  obtain ⟨rfl, rfl⟩ := trodVars_none hV
  obtain ⟨a0, rfl, rfl, rfl, w0⟩ := open_int Try.underlying3 (hval 0 3 v0 rfl rfl) h0
  obtain ⟨a1, rfl, rfl, rfl, w1⟩ := open_int Try.underlying2 (hval 1 2 v1 rfl rfl) h1
  obtain ⟨a2, rfl, rfl, rfl, w2⟩ := open_int Try.underlying2 (hval 2 2 v2 rfl rfl) h2
  obtain ⟨A, gaps, cap, rfl, hgaps⟩ := open_gaps (hval 3 36 v3 rfl rfl) h3
  clear hA0 hval0
  simp only [List.append_nil, List.nil_append] at hW'
  have hlt : ∀ x ∈ p3, x.block < W.heap.size := fun x hx => hW'.lt x hx
  refine (pers_walk a0 a1 a2 A cap gaps W hgaps).mono fun e W' ⟨he, hg⟩ => ?_
  subst he
  exact ⟨_, rfl, post_below (pa := [] ++ ([] ++ ([] ++ (p3 ++ [])))) (pv := []) hW' (fun _ _ _ => (trodAll_cons_mk (shut_bool Try.underlying4 _) trodAll_mk0))
    (fun sp hsp => (trodAll_cons_mk (shut_int Try.underlying3 w0) (trodAll_cons_mk (shut_int Try.underlying2 w1) (trodAll_cons_mk (shut_int Try.underlying2 w2) (trodAll_cons_mk (WideElems.Trod_stays Try.laidOut Try.readable36 (of_decide_eq_true (by kernel_rfl)) h3 (fun x hx => hg.same (hlt x hx)) hsp) trodAll_mk0)))))
    (fun _ _ => rfl) (by simp)
    hg (ok_one (by kernel_rfl) rfl (okWide_bool_mk Try.underlying4 _))⟩

theorem pers_holds : Rows.FnPersistentCongestionSaid :=
  OpenClaim.holds_of_wide 7 Try.f7 rfl rfl rfl rfl rfl rfl rfl ⟨rfl, rfl, rfl, rfl, rfl⟩ rfl rfl rfl rfl rfl (by kernel_rfl) Try.func7 (by kernel_rfl)
    (of_decide_eq_true (by kernel_rfl)) (by unfold Func.isWrapper; first | (rw [if_pos (by decide +kernel)]; kernel_rfl) | (rw [if_neg (by decide +kernel)]; exact ⟨rfl, rfl⟩))
    (fun os started H enc _ => pers_lifted os started H enc)

#print axioms pers_holds
end Go.Proofs.Ytpaociigfbibbaa
