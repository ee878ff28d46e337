/-
  FnEqualSamples: its walk.
-/
import Derived.Test.YtpaociigfbibbaaEqLaw
import Derived.Test.YtpaociigfbibbaaFirst
namespace Go.Proofs.Ytpaociigfbibbaa
open Go.RowKit

theorem flat_rep (o : Call) (k : Nat) : flat (List.replicate (k + 1) o) = flat (List.replicate k o) ++ opVals o := by
  rw [List.replicate_succ', flat_snoc]

set_option maxRecDepth 100000 in
set_option maxHeartbeats 8000000 in
theorem eq_in (size latest : Int) (N : Nat) (w : World) (h0 : 1200 ≤ size) (h1 : size ≤ 65527) (h2 : 0 ≤ latest) (h3 : latest ≤ 1099511627776) (h4 : 1 ≤ N) (h5 : N ≤ 200) :
    Calls Try.prog 3 #[.int .i64 size, .int .i64 latest, .int .i64 (N : Int)] w fun e w' => e = .returned (.bool true) ∧ Below w.heap.size w w' := by
  obtain ⟨i0, hi, hz0, hz1, hz2⟩ := info_parts Try.info24
  have g2 : 0 ≤ latest := h2
  go_enter Try.func3, Try.ntmps3
  go_wp2_with fail
  go_loopg [7, 33] N (fun m l i wr => ∃ k : Nat, k ≤ N ∧ m = N - k ∧ i = .int .i64 k ∧ wr.ownsRow w.heap.size 24 12 l k (flat (List.replicate k (eqCall latest))) ∧ Below w.heap.size w wr)
  case atStart => exact ⟨0, by omega, by omega, rfl, World.ownsRow_nil _ _ _ _, Below.refl _ _⟩
  case round =>
    obtain ⟨k, hk, hn, rfl, hown, hb⟩ := hrel
    have hbs := hb.size
    have Hn := Lib.hid hn
    clear hn
    by_cases hlt : k < N
    · go_wp2_with (at_builtin; refine wpList_append_lies _ (by rfl) (.tmp 35) (.tmp 38) 22 (by rfl) w.heap.size 24 i0 _ 12 80 Try.underlying22 hi hz0 hz1 hz2 (by rfl) (by omega) _ k (flat (List.replicate k (eqCall latest))) (by rfl) (hown.alloc _) ⟨wr.heap.size, 0, none⟩ 1 1 (opVals (eqCall latest)) (by rfl) (by rfl) ?c1 (oneCell_opVals _) (by omega) (by unfold maxLen; omega) (by omega) ?c2 (wr.heap.size + 1) ?c3 ?_)
      case c1 => exact World.news_of_block (heap_alloc_new wr (.cells (opVals (eqCall latest)).toArray 24))
      case c2 => simp; omega
      case c3 => simp
      intro g cap' w1 hown1 hgrow _ _
      have hb1 : Below w.heap.size w w1 := (hb.alloc hbs _).grown hgrow (by simp; omega) (own_ge hown)
      rw [← flat_rep] at hown1
      have Hown := Lib.hid hown1
      clear hown hown1 hgrow hb
      go_wp2_with fail
      go_roundg (gk - 1)
      case measure => have := Hn.out; omega
      case rel => exact ⟨k + 1, by omega, by have := Hn.out; omega, by go_num, Hown.out, hb1⟩
    · obtain rfl : k = N := by omega
      obtain ⟨A, c, rfl⟩ := own_slice hown
      have hown0 : wr.ownsRow w.heap.size 24 12 (.slice A (List.replicate k (eqCall latest)).length c) (List.replicate k (eqCall latest)).length (flat (List.replicate k (eqCall latest))) := by
        rw [List.length_replicate]; exact hown
      have hrun := run_any size A c (List.replicate k (eqCall latest)) wr (OpsAt.of_own hown0) (by rw [List.length_replicate]; omega) h0 h1 (fun o ho => by rw [List.eq_of_mem_replicate ho]; exact good_eq latest h2 h3)
      rw [List.length_replicate] at hrun
      have Hrun := Lib.hid hrun
      clear hrun hown hown0
      go_wp2_with (go_at_call 11; refine Hrun.out.mono ?_; rintro e w2 ⟨g, cap2, rfl, hown2, hb2⟩)
      have hb3 := below_on hb hbs hb2
      have hbs3 := hb3.size
      have hgl : g < w2.heap.size := by
        obtain ⟨g', cap', hv', _, hlt'⟩ := hown2.form (by omega)
        injection hv' with e1
        injection e1 with e1
        injection e1 with e1
        omega
      have hsrc : ∀ w3, Below w2.heap.size w2 w3 → ∀ j, j < k → w3.cell? ⟨g, (j + 1) * 11 + 8, none⟩ = some (.int .i64 latest) ∧ w3.cell? ⟨g, (j + 1) * 11 + 9, none⟩ = some (.int .i64 latest) ∧ w3.cell? ⟨g, (j + 1) * 11 + 10, none⟩ = some (.int .i64 (devAt latest j)) := by
        intro w3 hb4 j hj
        have hst := st_eq size latest k g2 j hj
        refine ⟨(hb4.cell (p := ⟨g, _, none⟩) hgl).trans (out_at hown2 rfl (k := j + 1) (j := 8) (by omega) (by rw [hst]; rfl)), (hb4.cell (p := ⟨g, _, none⟩) hgl).trans (out_at hown2 rfl (k := j + 1) (j := 9) (by omega) (by rw [hst]; rfl)),
          (hb4.cell (p := ⟨g, _, none⟩) hgl).trans (out_at hown2 rfl (k := j + 1) (j := 10) (by omega) (by rw [hst]; rfl))⟩
      have Hsrc := Lib.hid hsrc
      clear hsrc hown2 hb2 hb Hn
      go_wp2_with fail
      go_loopg [9] (k + 1) (fun m i wr => ∃ q : Nat, 1 ≤ q ∧ q ≤ k + 1 ∧ m = k + 2 - q ∧ i = .int .i64 q ∧ Below w2.heap.size w2 wr)
      case atStart => exact ⟨1, by omega, by omega, by omega, rfl, Below.refl _ _⟩
      case round =>
        obtain ⟨q, hq1, hq2, hn, rfl, hb⟩ := hrel
        have Hn := Lib.hid hn
        clear hn
        by_cases hlt2 : q < k + 1
        · have hq : q - 1 + 1 = q := by omega
          have hs := Hsrc.out wr hb (q - 1) (by omega)
          rw [hq] at hs
          obtain ⟨y8, y9, y10⟩ := hs
          have hd3 : 150 ≤ q - 1 → devAt latest (q - 1) ≤ 3 := fun h => dev_end latest g2 h3 h
          have hpre : 1 < q → ∃ d', wr.cell? ⟨g, (q - 1) * 11 + 10, none⟩ = some (.int .i64 d') ∧ devAt latest (q - 1) ≤ d' := by
            intro h
            obtain ⟨p, rfl⟩ : ∃ p, q = p + 2 := ⟨q - 2, by omega⟩
            refine ⟨devAt latest p, ?_, devAt_le latest g2 p⟩
            have h2 := (Hsrc.out wr hb p (by omega)).2.2
            have h3 : p + 2 - 1 = p + 1 := by omega
            rw [h3]
            exact h2
          obtain ⟨d, hd⟩ : ∃ d, devAt latest (q - 1) = d := ⟨_, rfl⟩
          rw [hd] at y10 hd3 hpre
          have Hd3 := Lib.hid hd3
          have Hpre := Lib.hid hpre
          clear hd hd3 hpre hq
          have iz : (0 : Int) ≤ (q : Int) := by omega
          have iy : (q : Int) < (k : Int) + 1 := by omega
          have dq : decide ((q : Int) ≤ (k : Int)) = true := by simp; omega
          by_cases hj : q = 1
          · have dj : decide ((1 : Int) < (q : Int)) = false := by simp; omega
            have Hj := Lib.hid hj
            clear hj
            by_cases hN : 150 < k
            · have dN : decide ((150 : Int) < (k : Int)) = true := by simp; omega
              have dk : ((q : Int) == (k : Int)) = false := by have := Hj.out; simp; omega
              go_wp2_with fail
              go_quiet (fail)
              go_wp2_with fail
              go_roundg (gk - 1)
              case measure => have := Hn.out; omega
              case rel => exact ⟨q + 1, by omega, by omega, by have := Hn.out; omega, by go_num, below_drewN hb _⟩
            · have dN : decide ((150 : Int) < (k : Int)) = false := by simp; omega
              go_wp2_with fail
              go_quiet (fail)
              go_wp2_with fail
              go_roundg (gk - 1)
              case measure => have := Hn.out; omega
              case rel => exact ⟨q + 1, by omega, by omega, by have := Hn.out; omega, by go_num, below_drewN hb _⟩
          · have dj : decide ((1 : Int) < (q : Int)) = true := by simp; omega
            obtain ⟨d', y11, hle⟩ := Hpre.out (by omega)
            have dd : decide (d' < d) = false := by simp; omega
            have ix : (0 : Int) ≤ (q : Int) - 1 := by omega
            have iw : (q : Int) - 1 < (k : Int) + 1 := by omega
            by_cases hN : 150 < k
            · have dN : decide ((150 : Int) < (k : Int)) = true := by simp; omega
              by_cases hk2 : q = k
              · have dk : ((q : Int) == (k : Int)) = true := by simp; omega
                have d3 : decide (3 < d) = false := by have := Hd3.out (by omega); simp; omega
                have Hk2 := Lib.hid hk2
                clear hk2
                go_wp2_with fail
                go_quiet (fail)
                go_wp2_with fail
                go_roundg (gk - 1)
                case measure => have := Hn.out; omega
                case rel => exact ⟨q + 1, by omega, by omega, by have := Hn.out; omega, by go_num, below_drewN hb _⟩
              · have dk : ((q : Int) == (k : Int)) = false := by simp; omega
                go_wp2_with fail
                go_quiet (fail)
                go_wp2_with fail
                go_roundg (gk - 1)
                case measure => have := Hn.out; omega
                case rel => exact ⟨q + 1, by omega, by omega, by have := Hn.out; omega, by go_num, below_drewN hb _⟩
            · have dN : decide ((150 : Int) < (k : Int)) = false := by simp; omega
              go_wp2_with fail
              go_quiet (fail)
              go_wp2_with fail
              go_roundg (gk - 1)
              case measure => have := Hn.out; omega
              case rel => exact ⟨q + 1, by omega, by omega, by have := Hn.out; omega, by go_num, below_drewN hb _⟩
        · go_wp2_with fail
          go_ret
          exact ⟨rfl, below_on hb3 hbs3 hb⟩

set_option maxRecDepth 100000 in
set_option maxHeartbeats 2000000 in
theorem eq_walk (size latest n : Int) (w : World) : Calls Try.prog 3 #[.int .i64 size, .int .i64 latest, .int .i64 n] w fun e w' => e = .returned (.bool true) ∧ Below w.heap.size w w' := by
  by_cases h0 : size < 1200
  · go_enter Try.func3, Try.ntmps3
    go_wp2_with fail
    go_ret
    exact ⟨rfl, Below.refl _ _⟩
  by_cases h1 : 65527 < size
  · go_enter Try.func3, Try.ntmps3
    go_wp2_with fail
    go_ret
    exact ⟨rfl, Below.refl _ _⟩
  by_cases h2 : latest < 0
  · go_enter Try.func3, Try.ntmps3
    go_wp2_with fail
    go_ret
    exact ⟨rfl, Below.refl _ _⟩
  by_cases h3 : 1099511627776 < latest
  · go_enter Try.func3, Try.ntmps3
    go_wp2_with fail
    go_ret
    exact ⟨rfl, Below.refl _ _⟩
  by_cases h4 : n < 1
  · go_enter Try.func3, Try.ntmps3
    go_wp2_with fail
    go_ret
    exact ⟨rfl, Below.refl _ _⟩
  by_cases h5 : 200 < n
  · go_enter Try.func3, Try.ntmps3
    go_wp2_with fail
    go_ret
    exact ⟨rfl, Below.refl _ _⟩
  obtain ⟨N, rfl⟩ := Int.eq_ofNat_of_zero_le (show 0 ≤ n by omega)
  exact eq_in size latest N w (by omega) (by omega) (by omega) (by omega) (by omega) (by omega)

end Go.Proofs.Ytpaociigfbibbaa

