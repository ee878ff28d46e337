/-
  FnPersistentCongestion: its walk.
-/
import Derived.Test.YtpaociigfbibbaaPersRow
import Derived.Test.YtpaociigfbibbaaTold
import Derived.Deep.CutBlock
namespace Go.Proofs.Ytpaociigfbibbaa
open Go.RowKit
attribute [local go_sem ↓] min_two max_two

set_option maxRecDepth 100000 in
set_option maxHeartbeats 8000000 in
theorem pers_in (size latest limit : Int) (A : Option Addr) (cap : Nat) (gaps : List Int) (w : World) (hgaps : GapsAt w w.heap.size A gaps)
    (h0 : 1200 ≤ size) (h1 : size ≤ 65527) (h2 : 0 ≤ latest) (h3 : latest ≤ 1073741824) (h4 : 0 ≤ limit) (h5 : limit ≤ 1073741824) (h6 : 1 ≤ gaps.length) (h7 : gaps.length ≤ 100) :
    Calls Try.prog 7 #[.int .i64 size, .int .i64 latest, .int .i64 limit, .slice A gaps.length cap] w fun e w' => e = .returned (.bool true) ∧ Below w.heap.size w w' := by
  obtain ⟨j0, hj, hz0, hz1, hz2⟩ := info_parts Try.info24
  have dl : decide ((2147483647 : Int) < (gaps.length : Int)) = false := by simp; omega
  have dz : ((gaps.length : Int) == 0) = false := by rw [beq_eq_false_iff_ne]; omega
  have dy : decide ((100 : Int) < (gaps.length : Int)) = false := by simp; omega
  go_enter Try.func7, Try.ntmps7
  go_wp2_with fail
  go_loopg [9, 10, 11, 60] (gaps.length + 1) (fun m l t lost i wr => ∃ k : Nat, k ≤ gaps.length + 1 ∧ m = gaps.length + 1 - k ∧ i = .int .i64 k ∧ t = .int .i64 (atG gaps (k - 1)) ∧ Gaps gaps (k - 1) ∧
    wr.ownsRow w.heap.size 24 12 l (k + 1) (flat (sents latest limit gaps k)) ∧ wr.ownsRow w.heap.size 24 12 lost k (flat (losts0 gaps k)) ∧ (∀ x, l.ownBlock = some x → lost.ownBlock ≠ some x) ∧ Below w.heap.size w wr)
  case atStart => exact ⟨0, by omega, by omega, rfl, by rw [atG_zero], fun i _ hi => by omega, own_first w (smpCall latest limit), World.ownsRow_nil _ _ _ _, fun x _ h => by simp [Value.ownBlock] at h, (Below.refl _ _).alloc (Nat.le_refl _) _⟩
  case round =>
    obtain ⟨k, hk, hn, rfl, rfl, hG, hL, hX, hS, hb⟩ := hrel
    have hbs := hb.size
    have Hn := Lib.hid hn
    clear hn
    by_cases hlt : k < gaps.length + 1
    · have ik : (k : Int) < (gaps.length : Int) + 1 := by omega
      go_upto_if 64 with (fail)
      go_cut [10] (fun s10 w' => s10 = .int .i64 (atG gaps k) ∧ Gaps gaps k ∧ w' = wr)
      case first =>
        by_cases hk0 : k = 0
        · subst hk0
          have HG := Lib.hid hG
          clear hG hL hX hS
          go_wp2_with fail
          go_meet
          exact ⟨rfl, HG.out, rfl⟩
        · have dk : decide ((0 : Int) < (k : Int)) = true := by simp; omega
          have ik0 : (0 : Int) < (k : Int) := by omega
          have hw1 : IntKind.i64.wrap ((k : Int) - 1) = (k : Int) - 1 := IntWalk.i64_in _ (by omega)
          have i0 : (0 : Int) ≤ (k : Int) - 1 := by omega
          have i1 : (k : Int) - 1 < (gaps.length : Int) := by omega
          have hnk : ((k : Int) - 1).toNat = k - 1 := by omega
          obtain ⟨b, off, rfl, hbB, hc⟩ := hgaps (by omega)
          obtain ⟨d, hd⟩ : ∃ d, gaps[k - 1] = d := ⟨_, rfl⟩
          have x0 : wr.cell? ⟨b, off + (k - 1), none⟩ = some (.int .i64 d) := (hb.cell (p := ⟨b, _, none⟩) hbB).trans (hd ▸ hc (k - 1) (by omega))
          have hbd := atG_bd gaps (k - 1) hG (by omega) (k - 1) (Nat.le_refl _)
          have hat : atG gaps k = atG gaps (k - 1) + d := by
            have := atG_succ gaps (i := k - 1) (by omega)
            rw [hd] at this
            rw [← this]
            have e : k - 1 + 1 = k := by omega
            rw [e]
          have hGk : 0 ≤ d → d ≤ 68719476736 → Gaps gaps k := by
            intro h0 h1 i hi hik
            by_cases he : i = k - 1
            · subst he; rw [hd]; exact ⟨h0, h1⟩
            · exact hG i hi (by omega)
          obtain ⟨t, ht⟩ : ∃ t, atG gaps (k - 1) = t := ⟨_, rfl⟩
          rw [ht] at hbd hat ⊢
          have Hat := Lib.hid hat
          have HGk := Lib.hid hGk
          clear hG hL hX hS hc hat hGk hd ht
          by_cases hd0 : d < 0
          · have dd : decide (d < 0) = true := by simpa using hd0
            go_wp2_with fail
            go_ret
            exact ⟨rfl, hb⟩
          · have dd : decide (d < 0) = false := by simpa using hd0
            by_cases hd1 : 68719476736 < d
            · have dd1 : decide (68719476736 < d) = true := by simpa using hd1
              go_wp2_with fail
              go_ret
              exact ⟨rfl, hb⟩
            · have dd1 : decide (68719476736 < d) = false := by simpa using hd1
              have hw2 : IntKind.i64.wrap (t + d) = t + d := IntWalk.i64_in _ (by omega)
              go_wp2_with fail
              go_meet
              exact ⟨by rw [Hat.out], HGk.out (by omega) (by omega), rfl⟩
      case rest =>
        obtain ⟨h10, hG', hw⟩ := hcut
        subst h10
        subst hw
        clear hG
        obtain ⟨T, hT⟩ : ∃ T, atG gaps k = T := ⟨_, rfl⟩
        have hwk : IntKind.i64.wrap ((k : Int) + 1) = (k : Int) + 1 := IntWalk.i64_in _ (by omega)
        have hsent : sentCall gaps k = ⟨0, 2, T, T, k, 1200, true, true, false, 0, 0, 0⟩ := by simp only [sentCall, hT]
        have hlost : lostZ gaps k = ⟨2, 2, T, T, k, 1200, true, true, false, 0, 0, 0⟩ := by simp only [lostZ, lostCall, hT]
        have HT := Lib.hid hT
        have HG := Lib.hid hG'
        have Hsent := Lib.hid hsent
        have Hlost := Lib.hid hlost
        have HS := Lib.hid hS
        have HX0 := Lib.hid (own_lt hX)
        obtain ⟨gl, cl, rfl, hgl0, hgl1⟩ := hL.form (by omega)
        obtain ⟨AX, cX, rfl⟩ := own_slice hX
        rw [hT]
        clear hT hG' hsent hlost hS
        go_upto_region 16 with (fail)
        go_wp2_with (at_builtin; refine wpList_append_lies _ (by rfl) (.tmp 90) (.tmp 92) 22 (by rfl) w.heap.size 24 j0 _ 12 80 Try.underlying22 hj hz0 hz1 hz2 (by rfl) (by omega) _ (k + 1) (flat (sents latest limit gaps k)) (by rfl) ((hL.alloc _).alloc _) ⟨wc.heap.size + 1, 0, none⟩ 1 1 (opVals ⟨0, 2, T, T, k, 1200, true, true, false, 0, 0, 0⟩) (by rfl) (by rfl) ?c1 (oneCell_opVals _) (by omega) (by unfold maxLen; omega) (by omega) ?c2 (wc.heap.size + 2) ?c3 ?_)
        case c1 => exact news_two wc _ (opVals ⟨0, 2, T, T, k, 1200, true, true, false, 0, 0, 0⟩) 24
        case c2 => simp; omega
        case c3 => simp
        intro g1 cap1 w1 hL1 hgrow hat1 hlt1
        have hp1 : Blk w1 wc.heap.size 24 (opVals ⟨0, 2, T, T, k, 1200, true, true, false, 0, 0, 0⟩).toArray := ((Blk.new wc 24 _).alloc _).grown hgrow (by simp [Value.ownBlock]; omega)
        have hX1 := own_far ((hX.alloc (.cells (opVals ⟨0, 2, T, T, k, 1200, true, true, false, 0, 0, 0⟩).toArray 24)).alloc (.cells (opVals ⟨0, 2, T, T, k, 1200, true, true, false, 0, 0, 0⟩).toArray 24)) hgrow (fun x hx => fun h => HS.out x h hx)
        have hb1 : Below w.heap.size w w1 := ((hb.alloc hbs _).alloc (by simp; omega) _).grown hgrow (by simp; omega) (fun x hx => by simp [Value.ownBlock] at hx; omega)
        have hS1 : g1 ≠ wc.heap.size ∧ ∀ x, (Value.slice AX k cX).ownBlock = some x → x ≠ g1 := by
          have hl := own_lt hX
          rcases hat1 with h | h
          · simp [Value.ownBlock] at h
            subst h
            exact ⟨by omega, fun x hx => by intro e; subst e; exact HS.out _ rfl hx⟩
          · subst h
            exact ⟨by omega, fun x hx => by have := hl x hx; omega⟩
        rw [← Hsent.out, ← flat_one, ← flat_append, ← sents_succ] at hL1
        have HL1 := Lib.hid hL1
        have HX1 := Lib.hid hX1
        have HS1 := Lib.hid hS1
        clear hL hX hgrow hat1 hL1 hX1 hS1 hgl0 hgl1
        have pf := hp1.frozen 0
        have p0 : w1.cell? ⟨wc.heap.size, 0, none⟩ = some (.int .i64 0) := hp1.cell 0
        have p1 : w1.cell? ⟨wc.heap.size, 1, none⟩ = some (.int .i64 2) := hp1.cell 1
        have p2 : w1.cell? ⟨wc.heap.size, 2, none⟩ = some (.int .i64 T) := hp1.cell 2
        have p3 : w1.cell? ⟨wc.heap.size, 3, none⟩ = some (.int .i64 T) := hp1.cell 3
        have p4 : w1.cell? ⟨wc.heap.size, 4, none⟩ = some (.int .i64 k) := hp1.cell 4
        have p5 : w1.cell? ⟨wc.heap.size, 5, none⟩ = some (.int .i64 1200) := hp1.cell 5
        have p6 : w1.cell? ⟨wc.heap.size, 6, none⟩ = some (.bool true) := hp1.cell 6
        have p7 : w1.cell? ⟨wc.heap.size, 7, none⟩ = some (.bool true) := hp1.cell 7
        have p8 : w1.cell? ⟨wc.heap.size, 8, none⟩ = some (.bool false) := hp1.cell 8
        have p9 : w1.cell? ⟨wc.heap.size, 9, none⟩ = some (.int .i64 0) := hp1.cell 9
        have p10 : w1.cell? ⟨wc.heap.size, 10, none⟩ = some (.int .i64 0) := hp1.cell 10
        have p11 : w1.cell? ⟨wc.heap.size, 11, none⟩ = some (.int .i64 0) := hp1.cell 11
        go_upto_region 18 with (fail)
        refine wp_forget (fun w' => Blk w' wc.heap.size 24 (opVals ⟨2, 2, T, T, k, 1200, true, true, false, 0, 0, 0⟩).toArray ∧ w'.ownsRow w.heap.size 24 12 (.slice (some ⟨g1, 0, none⟩) (k + 1 + 1) cap1) (k + 1 + 1) (flat (sents latest limit gaps (k + 1))) ∧ w'.ownsRow w.heap.size 24 12 (.slice AX k cX) k (flat (losts0 gaps k)) ∧ Below w.heap.size w w' ∧ g1 < w'.heap.size)
          ⟨blk_eq (hp1.put 0 _) (by simp [opVals]), ownsRow_setCell_other HL1.out (by intro h; simp [Value.ownBlock] at h; exact HS1.out.1 h) _, ownsRow_setCell_other HX1.out (fun h => Nat.lt_irrefl _ (HX0.out _ h)) _, hb1.setCell (by exact hbs) _, by simpa [World.setCell] using hlt1⟩ ?_
        rintro W2 ⟨q1, q2, q3, q4, q5⟩
        clear hp1 hb1 hlt1 pf p0 p1 p2 p3 p4 p5 p6 p7 p8 p9 p10 p11
        have p0 : W2.cell? ⟨wc.heap.size, 0, none⟩ = some (.int .i64 2) := q1.cell 0
        have p1 : W2.cell? ⟨wc.heap.size, 1, none⟩ = some (.int .i64 2) := q1.cell 1
        have p2 : W2.cell? ⟨wc.heap.size, 2, none⟩ = some (.int .i64 T) := q1.cell 2
        have p3 : W2.cell? ⟨wc.heap.size, 3, none⟩ = some (.int .i64 T) := q1.cell 3
        have p4 : W2.cell? ⟨wc.heap.size, 4, none⟩ = some (.int .i64 k) := q1.cell 4
        have p5 : W2.cell? ⟨wc.heap.size, 5, none⟩ = some (.int .i64 1200) := q1.cell 5
        have p6 : W2.cell? ⟨wc.heap.size, 6, none⟩ = some (.bool true) := q1.cell 6
        have p7 : W2.cell? ⟨wc.heap.size, 7, none⟩ = some (.bool true) := q1.cell 7
        have p8 : W2.cell? ⟨wc.heap.size, 8, none⟩ = some (.bool false) := q1.cell 8
        have p9 : W2.cell? ⟨wc.heap.size, 9, none⟩ = some (.int .i64 0) := q1.cell 9
        have p10 : W2.cell? ⟨wc.heap.size, 10, none⟩ = some (.int .i64 0) := q1.cell 10
        have p11 : W2.cell? ⟨wc.heap.size, 11, none⟩ = some (.int .i64 0) := q1.cell 11
        have hW2 := q4.size
        go_wp2_with (at_builtin; refine wpList_append_lies _ (by rfl) (.tmp 95) (.tmp 97) 22 (by rfl) w.heap.size 24 j0 _ 12 80 Try.underlying22 hj hz0 hz1 hz2 (by rfl) (by omega) _ k (flat (losts0 gaps k)) (by rfl) (q3.alloc _) ⟨W2.heap.size, 0, none⟩ 1 1 (opVals ⟨2, 2, T, T, k, 1200, true, true, false, 0, 0, 0⟩) (by rfl) (by rfl) ?c1 (oneCell_opVals _) (by omega) (by unfold maxLen; omega) (by omega) ?c2 (W2.heap.size + 1) ?c3 ?_)
        case c1 => exact World.news_of_block (heap_alloc_new W2 (.cells (opVals ⟨2, 2, T, T, k, 1200, true, true, false, 0, 0, 0⟩).toArray 24))
        case c2 => simp; omega
        case c3 => simp
        intro g2 cap2 w4 hX2 hgrow2 hat2 hlt2
        have hL2 := own_far (q2.alloc (.cells (opVals ⟨2, 2, T, T, k, 1200, true, true, false, 0, 0, 0⟩).toArray 24)) hgrow2 (fun x hx h => by simp [Value.ownBlock] at hx; exact HS1.out.2 x h hx.symm)
        have hb2 : Below w.heap.size w w4 := (q4.alloc hW2 _).grown hgrow2 (by simp; omega) (own_ge q3)
        have hne : g2 ≠ g1 := by
          rcases hat2 with h | h
          · exact HS1.out.2 g2 h
          · omega
        rw [← Hlost.out, ← flat_one, ← flat_append, ← losts0_succ] at hX2
        have HX2 := Lib.hid hX2
        have HL2 := Lib.hid hL2
        clear hX2 hL2 hgrow2 hat2 q1 q2 q3 q4 q5 p0 p1 p2 p3 p4 p5 p6 p7 p8 p9 p10 p11
        go_wp2_with fail
        go_roundg (gk - 1)
        case measure => have := Hn.out; omega
        case rel => exact ⟨k + 1, by omega, by have := Hn.out; omega, by go_num, by rw [Nat.add_sub_cancel, HT.out], by rw [Nat.add_sub_cancel]; exact HG.out, HL2.out, HX2.out, fun x hx h => by simp [Value.ownBlock] at hx h; omega, hb2⟩
    · obtain rfl : k = gaps.length + 1 := by omega
      obtain ⟨gx, cx, rfl, hgx0, hgx1⟩ := hX.form (by omega)
      obtain ⟨gl, cl, rfl, hgl0, hgl1⟩ := hL.form (by omega)
      have hne : gl ≠ gx := fun h => hS gl rfl (by rw [h]; rfl)
      have hG' : Gaps gaps gaps.length := hG
      have hbd := atG_bd gaps gaps.length hG' (Nat.le_refl _) gaps.length (Nat.le_refl _)
      rw [Nat.add_sub_cancel]
      obtain ⟨T, hT⟩ : ∃ T, atG gaps gaps.length = T := ⟨_, rfl⟩
      rw [hT] at hbd ⊢
      have HT := Lib.hid hT
      have HG := Lib.hid hG'
      have HL := Lib.hid hL
      have HX := Lib.hid hX
      clear hG hG' hT hL hX hS Hn hgaps
      have hwT : IntKind.i64.wrap (T + 1) = T + 1 := IntWalk.i64_in _ (by omega)
      go_wp2_with fail
      go_loopg [102] (gaps.length + 1) (fun m i wq => ∃ q : Nat, q ≤ gaps.length + 1 ∧ m = gaps.length + 1 - q ∧ i = .int .i64 q ∧ wq.ownsRow w.heap.size 24 12 (.slice (some ⟨gx, 0, none⟩) (gaps.length + 1) cx) (gaps.length + 1) (flat (lostsK gaps (T + 1) (gaps.length + 1) q)) ∧
        wq.ownsRow w.heap.size 24 12 (.slice (some ⟨gl, 0, none⟩) (gaps.length + 1 + 1) cl) (gaps.length + 1 + 1) (flat (sents latest limit gaps (gaps.length + 1))) ∧ Below w.heap.size w wq)
      case atStart => exact ⟨0, by omega, by omega, rfl, by rw [lostsK_zero]; exact HX.out, HL.out, hb⟩
      case round =>
        clear hb hbs HX HL
        obtain ⟨q, hq, hn, rfl, hX, hL, hb⟩ := hrel
        have Hn := Lib.hid hn
        clear hn
        by_cases hlq : q < gaps.length + 1
        · have iq : (q : Int) < (gaps.length : Int) + 1 := by omega
          have iq0 : (0 : Int) ≤ (q : Int) := by omega
          have hwq : IntKind.i64.wrap ((q : Int) + 1) = (q : Int) + 1 := IntWalk.i64_in _ (by omega)
          have c2 : wr.cell? ⟨gx, q * 12 + 2, none⟩ = some (.int .i64 (atG gaps q)) := own_cell hX (by rw [lostsK_length]; exact hlq) (by decide) (by rw [lostsK_at]; rfl)
          have f2 := own_frozen hX (q * 12 + 2)
          have hX2 := own_set hX q (by rw [lostsK_length]; exact hlq) (lostCall gaps (T + 1) q) (T + 1) (by rw [lostsK_at]; rfl)
          rw [lostsK_succ] at hX2
          have hL2 := ownsRow_setCell_other hL (a := ⟨gx, q * 12 + 2, none⟩) (by intro h; simp [Value.ownBlock] at h; exact hne h) (.int .i64 (T + 1))
          have hb2 : Below w.heap.size w (wr.setCell ⟨gx, q * 12 + 2, none⟩ (.int .i64 (T + 1))) := hb.setCell (by exact hgx0) _
          have HX2 := Lib.hid hX2
          have HL2 := Lib.hid hL2
          have Hb2 := Lib.hid hb2
          clear hX hL hX2 hL2 hb hb2
          go_wp2_with fail
          go_roundg (gk - 1)
          case measure => have := Hn.out; omega
          case rel => exact ⟨q + 1, by omega, by have := Hn.out; omega, by go_num, HX2.out, HL2.out, Hb2.out⟩
        · obtain rfl : q = gaps.length + 1 := by omega
          rw [lostsK_all] at hX
          have hbs := hb.size
          clear Hn hlq
          obtain ⟨X, hXX⟩ : ∃ X, (List.range (gaps.length + 1)).map (lostCall gaps (T + 1)) = X := ⟨_, rfl⟩
          obtain ⟨S, hSS⟩ : ∃ S, sents latest limit gaps (gaps.length + 1) = S := ⟨_, rfl⟩
          have hXl : X.length = gaps.length + 1 := by rw [← hXX, List.length_map, List.length_range]
          rw [hXX] at hX
          rw [hSS] at hL
          have HXX := Lib.hid hXX
          have HSS := Lib.hid hSS
          clear hXX hSS
          go_wp2_with (at_builtin; refine wpList_append_lies _ (by rfl) (.tmp 112) (.tmp 113) 22 (by rfl) w.heap.size 24 j0 _ 12 80 Try.underlying22 hj hz0 hz1 hz2 (by rfl) (by omega) _ (gaps.length + 1 + 1) (flat S) (by rfl) hL ⟨gx, 0, none⟩ (gaps.length + 1) cx (flat X) (by rfl) (by rw [flat_length, hXl]) (fun j u hu => hX.cells (g := gx) rfl j u hu) (oneCell_flat _) (by omega) (by unfold maxLen; omega) (by omega) (by omega) _ rfl ?_)
          intro g3 cap3 w3 hL3 hgrow3 hat3 hlt3
          have hb3 : Below w.heap.size w w3 := hb.grown hgrow3 (by omega) (own_ge hL)
          have hbs3 := hb3.size
          rw [← flat_append] at hL3
          have HL3 := Lib.hid hL3
          clear hX hL hgrow3 hat3 hb hbs hL3
          go_wp2_with (at_builtin; refine wpList_append_lies _ (by rfl) (.tmp 114) (.tmp 119) 22 (by rfl) w.heap.size 24 j0 _ 12 80 Try.underlying22 hj hz0 hz1 hz2 (by rfl) (by omega) _ (gaps.length + 1 + 1 + (gaps.length + 1)) (flat (S ++ X)) (by rfl) (HL3.out.alloc _) ⟨w3.heap.size, 0, none⟩ 1 1 (opVals (endCall (T + 1) limit)) (by rfl) (by rfl) ?c1 (oneCell_opVals _) (by omega) (by unfold maxLen; omega) (by omega) ?c2 (w3.heap.size + 1) ?c3 ?_)
          case c1 => exact World.news_of_block (heap_alloc_new w3 (.cells (opVals (endCall (T + 1) limit)).toArray 24))
          case c2 => simp; omega
          case c3 => simp
          intro g4 cap4 w4 hL4 hgrow4 hat4 hlt4
          have hb4 : Below w.heap.size w w4 := (hb3.alloc hbs3 _).grown hgrow4 (by simp; omega) (own_ge HL3.out)
          have hbs4 := hb4.size
          rw [← flat_one, ← flat_append] at hL4
          have hpc : S ++ X ++ [endCall (T + 1) limit] = persCalls latest limit gaps (gaps.length + 1) (T + 1) := by rw [← HXX.out, ← HSS.out]; rfl
          rw [hpc] at hL4
          clear hpc
          have hlen : (persCalls latest limit gaps (gaps.length + 1) (T + 1)).length = gaps.length + 1 + 1 + (gaps.length + 1) + 1 := by rw [pers_length]; omega
          have hgood := good_pers latest limit gaps h2 h3 h4 h5 HG.out h7
          rw [HT.out] at hgood
          have hpe := pers_end size latest limit gaps HG.out (T + 1)
          rw [HT.out] at hpe
          generalize persCalls latest limit gaps (gaps.length + 1) (T + 1) = ops at hL4 hlen hgood hpe
          rw [← hlen] at hL4 ⊢
          have hle : ops.length ≤ 1000 := by omega
          have hrun := run_any size (some ⟨g4, 0, none⟩) cap4 ops w4 (OpsAt.of_own hL4) hle h0 h1 hgood
          have hinv := inv_at size h0 h1 ops hle hgood ops.length (Nat.le_refl _)
          have Hrun := Lib.hid hrun
          have Hpe := Lib.hid hpe
          have Hinv := Lib.hid hinv
          have Hlen := Lib.hid hlen
          clear hL4 hgrow4 hat4 hb3 hbs3 hrun hpe hinv hgood hlen HG
          go_upto_region 27 with (go_at_call 11; refine Hrun.out.mono ?_; rintro e w5 ⟨g5, cap5, rfl, hown5, hb5⟩)
          have hb6 := below_on hb4 hbs4 hb5
          have hbs6 := hb6.size
          clear hb4 hbs4 hb5 Hrun
          have HOwn := Lib.hid hown5
          clear hown5
          obtain ⟨M, hM⟩ : ∃ M, ops.length = M := ⟨_, rfl⟩
          have hsrc : ∀ k, k < M + 1 → ∀ j v, (rowCells (stAt size ops k))[j]? = some v → w5.cell? ⟨g5, k * 11 + j, none⟩ = some v :=
            fun k hk j v hv => out_at HOwn.out rfl (k := k) (j := j) (by omega) hv
          have hg5 : g5 < w5.heap.size := by
            obtain ⟨g', cap', hv', _, hlt'⟩ := HOwn.out.form (by omega)
            injection hv' with e1
            injection e1 with e1
            injection e1 with e1
            omega
          rw [hM]
          have hMb : M ≤ 1000 := by omega
          have hMl := Hlen.out
          have hpe := Hpe.out
          rw [hM] at hpe hMl
          have HM := Lib.hid hM
          clear hM hle
          obtain ⟨yv0, ye0⟩ : ∃ v, (stAt size ops M).c.window = v := ⟨_, rfl⟩
          have y0 : w5.cell? ⟨g5, M * 11, none⟩ = some (.int .i64 yv0) := hsrc M (by omega) 0 _ (by rw [← ye0]; rfl)
          obtain ⟨yv1, ye1⟩ : ∃ v, (stAt size ops M).c.flight = v := ⟨_, rfl⟩
          have y1 : w5.cell? ⟨g5, M * 11 + 1, none⟩ = some (.int .i64 yv1) := hsrc M (by omega) 1 _ (by rw [← ye1]; rfl)
          obtain ⟨yv2, ye2⟩ : ∃ v, (stAt size ops M).c.thresh = v := ⟨_, rfl⟩
          have y2 : w5.cell? ⟨g5, M * 11 + 2, none⟩ = some (.int .i64 yv2) := hsrc M (by omega) 2 _ (by rw [← ye2]; rfl)
          obtain ⟨yv3, ye3⟩ : ∃ v, (stAt size ops M).c.pend = v := ⟨_, rfl⟩
          have y3 : w5.cell? ⟨g5, M * 11 + 3, none⟩ = some (.int .i64 yv3) := hsrc M (by omega) 3 _ (by rw [← ye3]; rfl)
          obtain ⟨yv4, ye4⟩ : ∃ v, ((stAt size ops M).c.one || decide ((stAt size ops M).c.flight + (stAt size ops M).c.size ≤ (stAt size ops M).c.window)) = v := ⟨_, rfl⟩
          have y4 : w5.cell? ⟨g5, M * 11 + 4, none⟩ = some (.bool yv4) := hsrc M (by omega) 4 _ (by rw [← ye4]; rfl)
          obtain ⟨yv5, ye5⟩ : ∃ v, (stAt size ops M).c.one = v := ⟨_, rfl⟩
          have y5 : w5.cell? ⟨g5, M * 11 + 5, none⟩ = some (.bool yv5) := hsrc M (by omega) 5 _ (by rw [← ye5]; rfl)
          obtain ⟨yv6, ye6⟩ : ∃ v, (stAt size ops M).c.inr = v := ⟨_, rfl⟩
          have y6 : w5.cell? ⟨g5, M * 11 + 6, none⟩ = some (.bool yv6) := hsrc M (by omega) 6 _ (by rw [← ye6]; rfl)
          obtain ⟨yv7, ye7⟩ : ∃ v, stateBytes (stAt size ops M).c = v := ⟨_, rfl⟩
          have y7 : w5.cell? ⟨g5, M * 11 + 7, none⟩ = some (.string yv7) := hsrc M (by omega) 7 _ (by rw [← ye7]; rfl)
          obtain ⟨yv8, ye8⟩ : ∃ v, (stAt size ops M).r.least = v := ⟨_, rfl⟩
          have y8 : w5.cell? ⟨g5, M * 11 + 8, none⟩ = some (.int .i64 yv8) := hsrc M (by omega) 8 _ (by rw [← ye8]; rfl)
          obtain ⟨yv9, ye9⟩ : ∃ v, (stAt size ops M).r.smooth = v := ⟨_, rfl⟩
          have y9 : w5.cell? ⟨g5, M * 11 + 9, none⟩ = some (.int .i64 yv9) := hsrc M (by omega) 9 _ (by rw [← ye9]; rfl)
          obtain ⟨yv10, ye10⟩ : ∃ v, (stAt size ops M).r.dev = v := ⟨_, rfl⟩
          have y10 : w5.cell? ⟨g5, M * 11 + 10, none⟩ = some (.int .i64 yv10) := hsrc M (by omega) 10 _ (by rw [← ye10]; rfl)
          have y0' : w5.cell? ⟨g5, 0, none⟩ = some (.int .i64 (newC size).window) := by have := hsrc 0 (by omega) 0 (.int .i64 (newC size).window) rfl; simpa using this
          obtain ⟨W0, hW0⟩ : ∃ W0, (newC size).window = W0 := ⟨_, rfl⟩
          have hW0b : 0 ≤ W0 ∧ W0 ≤ 655270 := by rw [← hW0]; show 0 ≤ min (10 * size) (max 14720 (2 * size)) ∧ min (10 * size) (max 14720 (2 * size)) ≤ 655270; omega
          obtain ⟨hW00, hW01⟩ := hW0b
          rw [hW0] at y0' hpe
          rw [ye0, ye8] at hpe
          obtain ⟨m, hm⟩ : ∃ m, max (4 * (latest / 2)) 1000000 = m := ⟨_, rfl⟩
          have hm0 : 1000000 ≤ m := by omega
          have hm1 : m ≤ 2147483648 := by omega
          have hlong : longOf latest limit = 3 * (latest + m + limit) := by unfold longOf; rw [hm]
          rw [hlong] at hpe
          clear hsrc hW0 hlong ye0 ye1 ye2 ye3 ye4 ye5 ye6 ye7 ye8 ye9 ye10
          have wM : IntKind.i64.wrap ((M : Int) + 1) = (M : Int) + 1 := IntWalk.i64_in _ (by omega)
          have w1 : IntKind.i64.wrap (4 * (latest / 2)) = 4 * (latest / 2) := IntWalk.i64_in _ (by omega)
          have w2 : IntKind.i64.wrap (latest + m) = latest + m := IntWalk.i64_in _ (by omega)
          have w3 : IntKind.i64.wrap (latest + m + limit) = latest + m + limit := IntWalk.i64_in _ (by omega)
          have w4 : IntKind.i64.wrap (3 * (latest + m + limit)) = 3 * (latest + m + limit) := IntWalk.i64_in _ (by omega)
          have w6 : IntKind.i64.wrap (T - 10) = T - 10 := IntWalk.i64_in _ (by omega)
          have w7 : IntKind.i64.wrap (2 * size) = 2 * size := IntWalk.i64_in _ (by omega)
          have iM : (M : Int) < (M : Int) + 1 := by omega
          have iM0 : (0 : Int) ≤ (M : Int) := by omega
          have i1 : (0 : Int) < (M : Int) + 1 := by omega
          have Hpe2 := Lib.hid hpe
          clear hpe Hpe hMl
          by_cases hgt : 3 * (latest + m + limit) < T - 10
          · obtain ⟨h8, h9⟩ := Hpe2.out.1 (by omega)
            rw [h8] at y0
            rw [h9] at y8
            clear h8 h9
            have d1 : decide (3 * (latest + m + limit) < T - 10) = true := by simpa using hgt
            clear hgt
            go_wp2_with fail
            go_ret
            exact ⟨rfl, hb6.alloc hbs6 _⟩
          · have d1 : decide (3 * (latest + m + limit) < T - 10) = false := by simpa using hgt
            by_cases hlt3 : T - 10 < 3 * (latest + m + limit)
            · have h8 := Hpe2.out.2 (by omega)
              rw [h8] at y0
              clear h8
              have d2 : decide (T - 10 < 3 * (latest + m + limit)) = true := by simpa using hlt3
              clear hgt hlt3
              go_wp2_with fail
              go_region
              all_goals
                go_wp2_with fail
                go_ret
                refine ⟨rfl, ?_⟩
                repeat (with_reducible (first | exact hb6.alloc hbs6 _ | refine Below.drew ?_ | refine below_drewN ?_ _))
            · have d2 : decide (T - 10 < 3 * (latest + m + limit)) = false := by simpa using hlt3
              clear hgt hlt3
              go_wp2_with fail
              go_ret
              exact ⟨rfl, hb6.alloc hbs6 _⟩

set_option maxRecDepth 100000 in
set_option maxHeartbeats 8000000 in
theorem pers_walk (size latest limit : Int) (A : Option Addr) (cap : Nat) (gaps : List Int) (w : World) (hgaps : GapsAt w w.heap.size A gaps) :
    Calls Try.prog 7 #[.int .i64 size, .int .i64 latest, .int .i64 limit, .slice A gaps.length cap] w fun e w' => e = .returned (.bool true) ∧ Below w.heap.size w w' := by
  by_cases hl : 2147483647 < gaps.length
  · have dl : decide ((2147483647 : Int) < (gaps.length : Int)) = true := by simp; omega
    go_enter Try.func7, Try.ntmps7
    go_wp2_with fail
    go_ret
    exact ⟨rfl, Below.refl _ _⟩
  have dl : decide ((2147483647 : Int) < (gaps.length : Int)) = false := by simp; omega
  by_cases h0 : size < 1200
  · have d : decide (size < 1200) = true := by simpa using h0
    go_enter Try.func7, Try.ntmps7
    go_wp2_with fail
    go_ret
    exact ⟨rfl, Below.refl _ _⟩
  by_cases h1 : 65527 < size
  · have d : decide (65527 < size) = true := by simpa using h1
    go_enter Try.func7, Try.ntmps7
    go_wp2_with fail
    go_ret
    exact ⟨rfl, Below.refl _ _⟩
  by_cases h2 : latest < 0
  · have d : decide (latest < 0) = true := by simpa using h2
    go_enter Try.func7, Try.ntmps7
    go_wp2_with fail
    go_ret
    exact ⟨rfl, Below.refl _ _⟩
  by_cases h3 : 1073741824 < latest
  · have d : decide (1073741824 < latest) = true := by simpa using h3
    go_enter Try.func7, Try.ntmps7
    go_wp2_with fail
    go_ret
    exact ⟨rfl, Below.refl _ _⟩
  by_cases h4 : limit < 0
  · have d : decide (limit < 0) = true := by simpa using h4
    go_enter Try.func7, Try.ntmps7
    go_wp2_with fail
    go_ret
    exact ⟨rfl, Below.refl _ _⟩
  by_cases h5 : 1073741824 < limit
  · have d : decide (1073741824 < limit) = true := by simpa using h5
    go_enter Try.func7, Try.ntmps7
    go_wp2_with fail
    go_ret
    exact ⟨rfl, Below.refl _ _⟩
  by_cases h6 : gaps.length = 0
  · have d : ((gaps.length : Int) == 0) = true := by rw [h6]; rfl
    clear h6
    go_enter Try.func7, Try.ntmps7
    go_wp2_with fail
    go_ret
    exact ⟨rfl, Below.refl _ _⟩
  by_cases h7 : 100 < gaps.length
  · have d : decide ((100 : Int) < (gaps.length : Int)) = true := by simp; omega
    have d0 : ((gaps.length : Int) == 0) = false := by rw [beq_eq_false_iff_ne]; omega
    clear h6
    go_enter Try.func7, Try.ntmps7
    go_wp2_with fail
    go_ret
    exact ⟨rfl, Below.refl _ _⟩
  exact pers_in size latest limit A cap gaps w hgaps (by omega) (by omega) (by omega) (by omega) (by omega) (by omega) (by omega) (by omega)

end Go.Proofs.Ytpaociigfbibbaa

