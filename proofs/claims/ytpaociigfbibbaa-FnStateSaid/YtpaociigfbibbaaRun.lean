/-
  impl.Run: the calls copied, ZZRun, the states copied.
-/
import Derived.Test.YtpaociigfbibbaaZZ
namespace Go.Proofs.Ytpaociigfbibbaa
open Go.RowKit

theorem own_slice {w : World} {base : Nat} {e : TypeId} {size n : Nat} {v : Value} {xs : List Value} (h : w.ownsRow base e size v n xs) : ∃ A c, v = .slice A n c := by
  rcases h.2 with ⟨h1, h2⟩ | ⟨g, cap, cur, hv, _⟩
  · exact ⟨none, 0, by rw [h1, h2]⟩
  · exact ⟨_, _, hv⟩
theorem rows_length (size : Int) (ops : List Call) (n : Nat) : (rows size ops n).length = n * 11 := by
  induction n with
  | zero => rfl
  | succ n ih => rw [rows_succ, List.length_append, ih, rowCells_length]; omega
theorem rows_at (size : Int) (ops : List Call) {n k j : Nat} (hk : k < n) (hj : j < 11) : (rows size ops n)[k * 11 + j]? = (rowCells (stAt size ops k))[j]? := by
  induction n with
  | zero => omega
  | succ n ih =>
    rw [rows_succ]
    by_cases h : k < n
    · rw [List.getElem?_append_left (by rw [rows_length]; omega)]
      exact ih h
    · obtain rfl : k = n := by omega
      rw [List.getElem?_append_right (by rw [rows_length]; omega), rows_length, show k * 11 + j - k * 11 = j from by omega]
theorem own_more {w : World} {base B : Nat} {e : TypeId} {size n : Nat} {v : Value} {xs : List Value} (h : w.ownsRow base e size v n xs) (hB : B ≤ base) : w.ownsRow B e size v n xs := by
  refine ⟨h.1, ?_⟩
  rcases h.2 with h0 | ⟨g, cap, cur, hv, hg, h3⟩
  · exact .inl h0
  · exact .inr ⟨g, cap, cur, hv, by omega, h3⟩

set_option maxHeartbeats 4000000 in
theorem run_any (size : Int) (A : Option Addr) (cap : Nat) (ops : List Call) (w : World) (hops : OpsAt w w.heap.size A ops) (hlen : ops.length ≤ 1000) (h0 : 1200 ≤ size) (h1 : size ≤ 65527) (hg : ∀ o ∈ ops, Good o) :
    Calls Try.prog 11 #[.int .i64 size, .slice A ops.length cap] w fun e w' => ∃ g cap', e = .returned (.slice (some ⟨g, 0, none⟩) (ops.length + 1) cap') ∧
      w'.ownsRow w.heap.size 28 11 (.slice (some ⟨g, 0, none⟩) (ops.length + 1) cap') (ops.length + 1) (rows size ops (ops.length + 1)) ∧ Below w.heap.size w w' := by
  obtain ⟨i0, hi, hz0, hz1, hz2⟩ := info_parts Try.info44
  obtain ⟨j0, hj, hy0, hy1, hy2⟩ := info_parts Try.info28
  have Hgood := Lib.hid hg
  clear hg
  go_enter Try.func11, Try.ntmps11
  go_wp2_with fail
  go_loopg [5, 13] ops.length (fun n l i wr => ∃ k : Nat, k ≤ ops.length ∧ n = ops.length - k ∧ i = .int .i64 k ∧ wr.ownsRow w.heap.size 44 12 l k (flat (ops.take k)) ∧ Below w.heap.size w wr)
  case atStart => exact ⟨0, by omega, by omega, rfl, World.ownsRow_nil _ _ _ _, Below.refl _ _⟩
  case round =>
    obtain ⟨k, hk, hn, rfl, hown, hb⟩ := hrel
    have hbs := hb.size
    by_cases hlt : k < ops.length
    · obtain ⟨b, off, rfl, hbB, hc⟩ := hops (by omega)
      obtain ⟨o, ho⟩ : ∃ o, ops[k] = o := ⟨_, rfl⟩
      have x0 : wr.cell? ⟨b, off + k * 12, none⟩ = some (.int .i64 o.kind) := (hb.cell (p := ⟨b, _, none⟩) hbB).trans (hc k hlt 0 _ (by rw [ho]; rfl))
      have x1 : wr.cell? ⟨b, off + k * 12 + 1, none⟩ = some (.int .i64 o.space) := (hb.cell (p := ⟨b, _, none⟩) hbB).trans (hc k hlt 1 _ (by rw [ho]; rfl))
      have x2 : wr.cell? ⟨b, off + k * 12 + 2, none⟩ = some (.int .i64 o.now) := (hb.cell (p := ⟨b, _, none⟩) hbB).trans (hc k hlt 2 _ (by rw [ho]; rfl))
      have x3 : wr.cell? ⟨b, off + k * 12 + 3, none⟩ = some (.int .i64 o.time) := (hb.cell (p := ⟨b, _, none⟩) hbB).trans (hc k hlt 3 _ (by rw [ho]; rfl))
      have x4 : wr.cell? ⟨b, off + k * 12 + 4, none⟩ = some (.int .i64 o.num) := (hb.cell (p := ⟨b, _, none⟩) hbB).trans (hc k hlt 4 _ (by rw [ho]; rfl))
      have x5 : wr.cell? ⟨b, off + k * 12 + 5, none⟩ = some (.int .i64 o.size) := (hb.cell (p := ⟨b, _, none⟩) hbB).trans (hc k hlt 5 _ (by rw [ho]; rfl))
      have x6 : wr.cell? ⟨b, off + k * 12 + 6, none⟩ = some (.bool o.el) := (hb.cell (p := ⟨b, _, none⟩) hbB).trans (hc k hlt 6 _ (by rw [ho]; rfl))
      have x7 : wr.cell? ⟨b, off + k * 12 + 7, none⟩ = some (.bool o.inf) := (hb.cell (p := ⟨b, _, none⟩) hbB).trans (hc k hlt 7 _ (by rw [ho]; rfl))
      have x8 : wr.cell? ⟨b, off + k * 12 + 8, none⟩ = some (.bool o.v) := (hb.cell (p := ⟨b, _, none⟩) hbB).trans (hc k hlt 8 _ (by rw [ho]; rfl))
      have x9 : wr.cell? ⟨b, off + k * 12 + 9, none⟩ = some (.int .i64 o.latest) := (hb.cell (p := ⟨b, _, none⟩) hbB).trans (hc k hlt 9 _ (by rw [ho]; rfl))
      have x10 : wr.cell? ⟨b, off + k * 12 + 10, none⟩ = some (.int .i64 o.delay) := (hb.cell (p := ⟨b, _, none⟩) hbB).trans (hc k hlt 10 _ (by rw [ho]; rfl))
      have x11 : wr.cell? ⟨b, off + k * 12 + 11, none⟩ = some (.int .i64 o.limit) := (hb.cell (p := ⟨b, _, none⟩) hbB).trans (hc k hlt 11 _ (by rw [ho]; rfl))
      have Ho := Lib.hid ho
      have Hn := Lib.hid hn
      clear ho hn hc
      go_wp2_with (at_builtin; refine wpList_append_lies _ (by rfl) (.tmp 17) (.tmp 19) 43 (by rfl) w.heap.size 44 i0 _ 12 80 Try.underlying43 hi hz0 hz1 hz2 (by rfl) (by omega) _ k (flat (ops.take k)) (by rfl) ((hown.alloc _).alloc _) ⟨wr.heap.size + 1, 0, none⟩ 1 1 (opVals o) (by rfl) (by rfl) ?c1 (oneCell_opVals o) (by omega) (by unfold maxLen; omega) (by omega) ?c2 (wr.heap.size + 2) ?c3 ?_)
      case c1 => exact news_two wr _ (opVals o) 44
      case c2 => simp; omega
      case c3 => simp
      intro g cap' w1 hown1 hgrow _ _
      have hb1 : Below w.heap.size w w1 := (((hb.alloc hbs _).alloc (by simp; omega) _).grown hgrow (by simp; omega) (own_ge hown))
      have hown2 : w1.ownsRow w.heap.size 44 12 (.slice (some ⟨g, 0, none⟩) (k + 1) cap') (k + 1) (flat (ops.take (k + 1))) := by
        rw [flat_take ops hlt, Ho.out]; exact hown1
      have Hown := Lib.hid hown2
      clear hown hown1 hown2 hgrow x0 x1 x2 x3 x4 x5 x6 x7 x8 x9 x10 x11 hb
      go_wp2_with fail
      go_roundg (gk - 1)
      case measure => have := Hn.out; omega
      case rel => exact ⟨k + 1, by omega, by have := Hn.out; omega, by go_num, Hown.out, hb1⟩
    · obtain rfl : k = ops.length := by omega
      rw [List.take_length] at hown
      obtain ⟨A', c', rfl⟩ := own_slice hown
      have hops2 := OpsAt.of_own hown
      have Hops2 := Lib.hid hops2
      clear hops2 hown hn hops
      go_wp2_with fail
      refine (zz_any size A' c' ops _ Hops2.out hlen h0 h1 Hgood.out).mono ?_
      rintro e w2 ⟨g, cap2, rfl, hown2, hb2⟩
      have hb3 := below_on hb hbs hb2
      have hbs3 := hb3.size
      have hsrc : ∀ w3, Below w2.heap.size w2 w3 → ∀ k, k < ops.length + 1 → ∀ j v, (rowCells (stAt size ops k))[j]? = some v → w3.cell? ⟨g, k * 11 + j, none⟩ = some v := by
        intro w3 hb4 k hk j v hv
        have hj : j < 11 := by
          obtain ⟨h1, _⟩ := List.getElem?_eq_some_iff.1 hv
          simpa [rowCells_length] using h1
        obtain ⟨g', cap', hv', _, hlt'⟩ := hown2.form (by omega)
        have hgl : g < w2.heap.size := by injection hv' with e1; injection e1 with e1; injection e1 with e1; omega
        have := hown2.cells (g := g) rfl (k * 11 + j) v (by rw [rows_at size ops hk hj]; exact hv)
        rw [add_off] at this
        exact (hb4.cell (p := ⟨g, _, none⟩) hgl).trans this
      have Hsrc := Lib.hid hsrc
      clear hown2 hb2 hb hsrc
      go_wp2_with fail
      go_loopg [8, 26] (ops.length + 1) (fun n l i wr => ∃ k : Nat, k ≤ ops.length + 1 ∧ n = ops.length + 1 - k ∧ i = .int .i64 k ∧ wr.ownsRow w2.heap.size 28 11 l k (rows size ops k) ∧ Below w2.heap.size w2 wr)
      case atStart => exact ⟨0, by omega, by omega, rfl, World.ownsRow_nil _ _ _ _, Below.refl _ _⟩
      case round =>
        obtain ⟨k, hk, hn, rfl, hown, hb⟩ := hrel
        have hbs := hb.size
        by_cases hlt : k < ops.length + 1
        · have hrows := rows_succ size ops k
          have hsrc := Hsrc.out
          obtain ⟨s, hs⟩ : ∃ s, stAt size ops k = s := ⟨_, rfl⟩
          rw [hs] at hrows
          have x0 : wr.cell? ⟨g, k * 11, none⟩ = some (.int .i64 s.c.window) := hsrc wr hb k (by omega) 0 _ (by rw [hs]; rfl)
          have x1 : wr.cell? ⟨g, k * 11 + 1, none⟩ = some (.int .i64 s.c.flight) := hsrc wr hb k (by omega) 1 _ (by rw [hs]; rfl)
          have x2 : wr.cell? ⟨g, k * 11 + 2, none⟩ = some (.int .i64 s.c.thresh) := hsrc wr hb k (by omega) 2 _ (by rw [hs]; rfl)
          have x3 : wr.cell? ⟨g, k * 11 + 3, none⟩ = some (.int .i64 s.c.pend) := hsrc wr hb k (by omega) 3 _ (by rw [hs]; rfl)
          have x4 : wr.cell? ⟨g, k * 11 + 4, none⟩ = some (.bool (s.c.one || decide (s.c.flight + s.c.size ≤ s.c.window))) := hsrc wr hb k (by omega) 4 _ (by rw [hs]; rfl)
          have x5 : wr.cell? ⟨g, k * 11 + 5, none⟩ = some (.bool s.c.one) := hsrc wr hb k (by omega) 5 _ (by rw [hs]; rfl)
          have x6 : wr.cell? ⟨g, k * 11 + 6, none⟩ = some (.bool s.c.inr) := hsrc wr hb k (by omega) 6 _ (by rw [hs]; rfl)
          have x7 : wr.cell? ⟨g, k * 11 + 7, none⟩ = some (.string (stateBytes s.c)) := hsrc wr hb k (by omega) 7 _ (by rw [hs]; rfl)
          have x8 : wr.cell? ⟨g, k * 11 + 8, none⟩ = some (.int .i64 s.r.least) := hsrc wr hb k (by omega) 8 _ (by rw [hs]; rfl)
          have x9 : wr.cell? ⟨g, k * 11 + 9, none⟩ = some (.int .i64 s.r.smooth) := hsrc wr hb k (by omega) 9 _ (by rw [hs]; rfl)
          have x10 : wr.cell? ⟨g, k * 11 + 10, none⟩ = some (.int .i64 s.r.dev) := hsrc wr hb k (by omega) 10 _ (by rw [hs]; rfl)
          have Hr := Lib.hid hrows
          have Hn := Lib.hid hn
          clear hs hn hrows hsrc
          go_wp2_with (at_builtin; refine wpList_append_lies _ (by rfl) (.tmp 30) (.tmp 32) 25 (by rfl) w2.heap.size 28 j0 _ 11 80 Try.underlying25 hj hy0 hy1 hy2 (by rfl) (by omega) _ k (rows size ops k) (by rfl) ((hown.alloc _).alloc _) ⟨wr.heap.size + 1, 0, none⟩ 1 1 (rowCells s) (by rfl) (by rfl) ?d1 (oneCell_row s) (by omega) (by unfold maxLen; omega) (by omega) ?d2 (wr.heap.size + 2) ?d3 ?_)
          case d1 => exact news_two wr _ (rowCells s) 28
          case d2 => simp; omega
          case d3 => simp
          intro g1 cap' w4 hown1 hgrow _ _
          have hb1 : Below w2.heap.size w2 w4 := (((hb.alloc hbs _).alloc (by simp; omega) _).grown hgrow (by simp; omega) (own_ge hown))
          rw [← Hr.out] at hown1
          have Hown := Lib.hid hown1
          clear hown hown1 hgrow x0 x1 x2 x3 x4 x5 x6 x7 x8 x9 x10 hb
          go_wp2_with fail
          go_roundg (gk - 1)
          case measure => have := Hn.out; omega
          case rel => exact ⟨k + 1, by omega, by have := Hn.out; omega, by go_num, Hown.out, hb1⟩
        · obtain rfl : k = ops.length + 1 := by omega
          obtain ⟨g1, cap1, rfl, _, _⟩ := hown.form (by omega)
          go_wp2_with fail
          go_ret
          exact ⟨g1, cap1, rfl, own_more hown hbs3, below_on hb3 hbs3 hb⟩
end Go.Proofs.Ytpaociigfbibbaa

