/-
  laws.told: the calls tested, and handed on as calls for the reference.
-/
import Derived.Test.YtpaociigfbibbaaStep
import Derived.Test.YtpaociigfbibbaaRun
namespace Go.Proofs.Ytpaociigfbibbaa
open Go.RowKit

/-- What the statements ask of a call. -/
structure ToldC (o : Call) : Prop where
  k0 : 0 ≤ o.kind
  k1 : o.kind ≤ 6
  sp0 : 0 ≤ o.space
  sp1 : o.space ≤ 2
  size0 : 0 ≤ o.size
  size1 : o.size ≤ 65535
  now0 : 0 ≤ o.now
  now1 : o.now < 3000000
  time0 : 0 ≤ o.time
  time1 : o.time < 3000000
  num0 : 0 ≤ o.num
  num1 : o.num < 4611686018427387904
  lat0 : 0 ≤ o.latest
  lat1 : o.latest ≤ 1099511627776
  del0 : 0 ≤ o.delay
  del1 : o.delay ≤ 1099511627776
  lim0 : 0 ≤ o.limit
  lim1 : o.limit ≤ 1099511627776
  smp : ¬ (o.kind = 6 ∧ o.space = 0)
theorem ToldC.good {o : Call} (h : ToldC o) : Good o := by
  obtain ⟨h1, h2, h3, h4, h5, h6, h7, h8, h9, h10, h11, h12, h13, h14, h15, h16, h17, h18, h19⟩ := h
  constructor <;> omega

theorem min_two (ats : Array TypeId) (ty : TypeId) (a b : Int) : Builtin.min_ ats ty #[.int .i64 a, .int .i64 b] = pure (.int .i64 (min a b)) := by
  have h : (if b < a then b else a) = min a b := by split <;> omega
  rw [← h]; rfl
theorem max_two (ats : Array TypeId) (ty : TypeId) (a b : Int) : Builtin.max_ ats ty #[.int .i64 a, .int .i64 b] = pure (.int .i64 (max a b)) := by
  have h : (if a < b then b else a) = max a b := by split <;> omega
  rw [← h]; rfl
theorem min_three (ats : Array TypeId) (ty : TypeId) (a b c : Int) : Builtin.min_ ats ty #[.int .i64 a, .int .i64 b, .int .i64 c] = pure (.int .i64 (min a (min b c))) := by
  have h : (if c < (if b < a then b else a) then c else (if b < a then b else a)) = min a (min b c) := by split <;> split <;> omega
  rw [← h]; rfl
theorem max_three (ats : Array TypeId) (ty : TypeId) (a b c : Int) : Builtin.max_ ats ty #[.int .i64 a, .int .i64 b, .int .i64 c] = pure (.int .i64 (max a (max b c))) := by
  have h : (if (if a < b then b else a) < c then c else (if a < b then b else a)) = max a (max b c) := by split <;> split <;> omega
  rw [← h]; rfl
attribute [local go_sem ↓] min_two max_two min_three max_three

set_option maxRecDepth 100000 in
set_option maxHeartbeats 8000000 in
theorem told_any (size : Int) (A : Option Addr) (cap : Nat) (ops : List Call) (w : World) (hops : OpsAt w w.heap.size A ops) (hlen : ops.length ≤ 2147483647) :
    Calls Try.prog 12 #[.int .i64 size, .slice A ops.length cap] w fun e w' => ((∃ v, e = .returned (.tuple #[v, .bool false])) ∨
      ∃ A' c', e = .returned (.tuple #[.slice A' ops.length c', .bool true]) ∧ ops.length ≤ 1000 ∧ 1200 ≤ size ∧ size ≤ 65527 ∧ (∀ o ∈ ops, ToldC o) ∧ w'.ownsRow w.heap.size 34 12 (.slice A' ops.length c') ops.length (flat ops)) ∧ Below w.heap.size w w' := by
  obtain ⟨i0, hi, hz0, hz1, hz2⟩ := info_parts Try.info34
  go_enter Try.func12, Try.ntmps12
  go_wp2_with fail
  go_loopg [6, 11] ops.length (fun n l i wr => ∃ k : Nat, k ≤ ops.length ∧ n = ops.length - k ∧ i = .int .i64 k ∧ (∀ u ∈ ops.take k, ToldC u) ∧ wr.ownsRow w.heap.size 34 12 l k (flat (ops.take k)) ∧ Below w.heap.size w wr)
  case atStart => exact ⟨0, by omega, by omega, rfl, fun u hu => by simp at hu, World.ownsRow_nil _ _ _ _, Below.refl _ _⟩
  case round =>
    obtain ⟨k, hk, hn, rfl, hall, hown, hb⟩ := hrel
    have hbs := hb.size
    have Hn := Lib.hid hn
    clear hn
    by_cases hlt : k < ops.length
    · obtain ⟨b, off, rfl, hbB, hc⟩ := hops (by omega)
      obtain ⟨o, ho⟩ : ∃ o, ops[k] = o := ⟨_, rfl⟩
      have x0 : wr.cell? ⟨b, off + k * 12, none⟩ = some (.int .i64 o.kind) := (hb.cell (p := ⟨b, _, none⟩) hbB).trans (hc k hlt 0 _ (by rw [ho]; rfl))
      have x1 : wr.cell? ⟨b, off + k * 12 + 1, none⟩ = some (.int .i64 o.space) := (hb.cell (p := ⟨b, _, none⟩) hbB).trans (hc k hlt 1 _ (by rw [ho]; rfl))
      have x2 : wr.cell? ⟨b, off + k * 12 + 2, none⟩ = some (.int .i64 o.now) := (hb.cell (p := ⟨b, _, none⟩) hbB).trans (hc k hlt 2 _ (by rw [ho]; rfl))
      have x3 : wr.cell? ⟨b, off + k * 12 + 3, none⟩ = some (.int .i64 o.time) := (hb.cell (p := ⟨b, _, none⟩) hbB).trans (hc k hlt 3 _ (by rw [ho]; rfl))
      have x4 : wr.cell? ⟨b, off + k * 12 + 4, none⟩ = some (.int .i64 o.num) := (hb.cell (p := ⟨b, _, none⟩) hbB).trans (hc k hlt 4 _ (by rw [ho]; rfl))
      have x5 : wr.cell? ⟨b, off + k * 12 + 5, none⟩ = some (.int .i64 o.size) := (hb.cell (p := ⟨b, _, none⟩) hbB).trans (hc k hlt 5 _ (by rw [ho]; rfl))
      have x6 : wr.cell? ⟨b, off + k * 12 + 6, none⟩ = some (.bool o.el) := (hb.cell (p := ⟨b, _, none⟩) hbB).trans (hc k hlt 6 _ (by rw [ho]; rfl))
      have x7 : wr.cell? ⟨b, off + k * 12 + 7, none⟩ = some (.bool o.inf) := (hb.cell (p := ⟨b, _, none⟩) hbB).trans (hc k hlt 7 _ (by rw [ho]; rfl))
      have x8 : wr.cell? ⟨b, off + k * 12 + 8, none⟩ = some (.bool o.v) := (hb.cell (p := ⟨b, _, none⟩) hbB).trans (hc k hlt 8 _ (by rw [ho]; rfl))
      have x9 : wr.cell? ⟨b, off + k * 12 + 9, none⟩ = some (.int .i64 o.latest) := (hb.cell (p := ⟨b, _, none⟩) hbB).trans (hc k hlt 9 _ (by rw [ho]; rfl))
      have x10 : wr.cell? ⟨b, off + k * 12 + 10, none⟩ = some (.int .i64 o.delay) := (hb.cell (p := ⟨b, _, none⟩) hbB).trans (hc k hlt 10 _ (by rw [ho]; rfl))
      have x11 : wr.cell? ⟨b, off + k * 12 + 11, none⟩ = some (.int .i64 o.limit) := (hb.cell (p := ⟨b, _, none⟩) hbB).trans (hc k hlt 11 _ (by rw [ho]; rfl))
      have Ho := Lib.hid ho
      clear ho hc
      by_cases q0 : o.kind < 0
      · have d0 : decide (o.kind < 0) = true := decide_eq_true q0
        clear q0
        go_wp2_with fail
        go_ret2
        exact ⟨.inl ⟨_, rfl⟩, (hb.alloc hbs _)⟩
      have d0 : decide (o.kind < 0) = false := decide_eq_false q0
      have Q0 := Lib.hid q0
      clear q0
      by_cases q1 : 6 < o.kind
      · have d1 : decide (6 < o.kind) = true := decide_eq_true q1
        clear q1
        go_wp2_with fail
        go_ret2
        exact ⟨.inl ⟨_, rfl⟩, (hb.alloc hbs _)⟩
      have d1 : decide (6 < o.kind) = false := decide_eq_false q1
      have Q1 := Lib.hid q1
      clear q1
      by_cases q2 : o.space < 0
      · have d2 : decide (o.space < 0) = true := decide_eq_true q2
        clear q2
        go_wp2_with fail
        go_ret2
        exact ⟨.inl ⟨_, rfl⟩, (hb.alloc hbs _)⟩
      have d2 : decide (o.space < 0) = false := decide_eq_false q2
      have Q2 := Lib.hid q2
      clear q2
      by_cases q3 : 2 < o.space
      · have d3 : decide (2 < o.space) = true := decide_eq_true q3
        clear q3
        go_wp2_with fail
        go_ret2
        exact ⟨.inl ⟨_, rfl⟩, (hb.alloc hbs _)⟩
      have d3 : decide (2 < o.space) = false := decide_eq_false q3
      have Q3 := Lib.hid q3
      clear q3
      by_cases q4 : o.size < 0
      · have d4 : decide (o.size < 0) = true := decide_eq_true q4
        clear q4
        go_wp2_with fail
        go_ret2
        exact ⟨.inl ⟨_, rfl⟩, (hb.alloc hbs _)⟩
      have d4 : decide (o.size < 0) = false := decide_eq_false q4
      have Q4 := Lib.hid q4
      clear q4
      by_cases q5 : 65535 < o.size
      · have d5 : decide (65535 < o.size) = true := decide_eq_true q5
        clear q5
        go_wp2_with fail
        go_ret2
        exact ⟨.inl ⟨_, rfl⟩, (hb.alloc hbs _)⟩
      have d5 : decide (65535 < o.size) = false := decide_eq_false q5
      have Q5 := Lib.hid q5
      clear q5
      by_cases q6 : min o.now o.time < 0
      · have d6 : decide (min o.now o.time < 0) = true := decide_eq_true q6
        clear q6
        go_wp2_with fail
        go_ret2
        exact ⟨.inl ⟨_, rfl⟩, (hb.alloc hbs _)⟩
      have d6 : decide (min o.now o.time < 0) = false := decide_eq_false q6
      have Q6 := Lib.hid q6
      clear q6
      by_cases q7 : 3000000 ≤ max o.now o.time
      · have d7 : decide (3000000 ≤ max o.now o.time) = true := decide_eq_true q7
        clear q7
        go_wp2_with fail
        go_ret2
        exact ⟨.inl ⟨_, rfl⟩, (hb.alloc hbs _)⟩
      have d7 : decide (3000000 ≤ max o.now o.time) = false := decide_eq_false q7
      have Q7 := Lib.hid q7
      clear q7
      by_cases q8 : o.num < 0
      · have d8 : decide (o.num < 0) = true := decide_eq_true q8
        clear q8
        go_wp2_with fail
        go_ret2
        exact ⟨.inl ⟨_, rfl⟩, (hb.alloc hbs _)⟩
      have d8 : decide (o.num < 0) = false := decide_eq_false q8
      have Q8 := Lib.hid q8
      clear q8
      by_cases q9 : 4611686018427387904 ≤ o.num
      · have d9 : decide (4611686018427387904 ≤ o.num) = true := decide_eq_true q9
        clear q9
        go_wp2_with fail
        go_ret2
        exact ⟨.inl ⟨_, rfl⟩, (hb.alloc hbs _)⟩
      have d9 : decide (4611686018427387904 ≤ o.num) = false := decide_eq_false q9
      have Q9 := Lib.hid q9
      clear q9
      by_cases q10 : min o.latest (min o.delay o.limit) < 0
      · have d10 : decide (min o.latest (min o.delay o.limit) < 0) = true := decide_eq_true q10
        clear q10
        go_wp2_with fail
        go_ret2
        exact ⟨.inl ⟨_, rfl⟩, (hb.alloc hbs _)⟩
      have d10 : decide (min o.latest (min o.delay o.limit) < 0) = false := decide_eq_false q10
      have Q10 := Lib.hid q10
      clear q10
      by_cases q11 : 1099511627776 < max o.latest (max o.delay o.limit)
      · have d11 : decide (1099511627776 < max o.latest (max o.delay o.limit)) = true := decide_eq_true q11
        clear q11
        go_wp2_with fail
        go_ret2
        exact ⟨.inl ⟨_, rfl⟩, (hb.alloc hbs _)⟩
      have d11 : decide (1099511627776 < max o.latest (max o.delay o.limit)) = false := decide_eq_false q11
      have Q11 := Lib.hid q11
      clear q11
      have hok : ¬ (o.kind = 6 ∧ o.space = 0) → ToldC o := by
        intro hs
        have := Q0.out; have := Q1.out; have := Q2.out; have := Q3.out; have := Q4.out; have := Q5.out; have := Q6.out; have := Q7.out; have := Q8.out; have := Q9.out; have := Q10.out; have := Q11.out
        constructor <;> first | exact hs | omega
      have hnew : ¬ (o.kind = 6 ∧ o.space = 0) → ∀ u ∈ ops.take (k + 1), ToldC u := by
        intro hs u hu
        rw [List.take_succ_eq_append_getElem hlt, List.mem_append] at hu
        rcases hu with hu | hu
        · exact hall u hu
        · rw [Ho.out, List.mem_singleton] at hu
          rw [hu]; exact hok hs
      have Hnew := Lib.hid hnew
      clear hok hnew
      by_cases hk6 : o.kind = 6
      · have d12 : (o.kind == 6) = true := by rw [hk6]; rfl
        have Hk6 := Lib.hid hk6
        clear hk6
        by_cases hsp : o.space = 0
        · have d13 : (o.space == 0) = true := by rw [hsp]; rfl
          clear hsp
          go_wp2_with fail
          go_ret2
          exact ⟨.inl ⟨_, rfl⟩, (hb.alloc hbs _)⟩
        · have d13 : (o.space == 0) = false := by simpa using hsp
          have Hall := Lib.hid (Hnew.out (fun h => hsp h.2))
          clear hsp Hnew Hk6
          go_wp2_with (at_builtin; refine wpList_append_lies _ (by rfl) (.tmp 97) (.tmp 123) 31 (by rfl) w.heap.size 34 i0 _ 12 80 Try.underlying31 hi hz0 hz1 hz2 (by rfl) (by omega) _ k (flat (ops.take k)) (by rfl) ((hown.alloc _).alloc _) ⟨wr.heap.size + 1, 0, none⟩ 1 1 (opVals o) (by rfl) (by rfl) ?c1 (oneCell_opVals o) (by omega) (by unfold maxLen; omega) (by omega) ?c2 (wr.heap.size + 2) ?c3 ?_)
          case c1 => exact fun _ _ h => h
          case c2 => omega
          intro g cap' w1 hown1 hgrow _ _
          have hb1 : Below w.heap.size w w1 := (((hb.alloc hbs _).alloc (by simp; omega) _).grown hgrow (by simp; omega) (own_ge hown))
          have hown2 : w1.ownsRow w.heap.size 34 12 (.slice (some ⟨g, 0, none⟩) (k + 1) cap') (k + 1) (flat (ops.take (k + 1))) := by
            rw [flat_take ops hlt, Ho.out]; exact hown1
          have Hown := Lib.hid hown2
          clear hown hown1 hown2 hgrow x0 x1 x2 x3 x4 x5 x6 x7 x8 x9 x10 x11 hb
          go_wp2_with fail
          go_roundg (gk - 1)
          case measure => have := Hn.out; omega
          case rel => exact ⟨k + 1, by omega, by have := Hn.out; omega, by go_num, Hall.out, Hown.out, hb1⟩
      · have d12 : (o.kind == 6) = false := by simpa using hk6
        have Hall := Lib.hid (Hnew.out (fun h => hk6 h.1))
        clear hk6 Hnew
        go_wp2_with (at_builtin; refine wpList_append_lies _ (by rfl) (.tmp 97) (.tmp 123) 31 (by rfl) w.heap.size 34 i0 _ 12 80 Try.underlying31 hi hz0 hz1 hz2 (by rfl) (by omega) _ k (flat (ops.take k)) (by rfl) ((hown.alloc _).alloc _) ⟨wr.heap.size + 1, 0, none⟩ 1 1 (opVals o) (by rfl) (by rfl) ?c1 (oneCell_opVals o) (by omega) (by unfold maxLen; omega) (by omega) ?c2 (wr.heap.size + 2) ?c3 ?_)
        case c1 => exact fun _ _ h => h
        case c2 => omega
        intro g cap' w1 hown1 hgrow _ _
        have hb1 : Below w.heap.size w w1 := (((hb.alloc hbs _).alloc (by simp; omega) _).grown hgrow (by simp; omega) (own_ge hown))
        have hown2 : w1.ownsRow w.heap.size 34 12 (.slice (some ⟨g, 0, none⟩) (k + 1) cap') (k + 1) (flat (ops.take (k + 1))) := by
          rw [flat_take ops hlt, Ho.out]; exact hown1
        have Hown := Lib.hid hown2
        clear hown hown1 hown2 hgrow x0 x1 x2 x3 x4 x5 x6 x7 x8 x9 x10 x11 hb
        go_wp2_with fail
        go_roundg (gk - 1)
        case measure => have := Hn.out; omega
        case rel => exact ⟨k + 1, by omega, by have := Hn.out; omega, by go_num, Hall.out, Hown.out, hb1⟩
    · obtain rfl : k = ops.length := by omega
      rw [List.take_length] at hown hall
      obtain ⟨A', c', rfl⟩ := own_slice hown
      by_cases z0 : ops.length ≤ 1000
      · have y0 : decide ((ops.length : Int) ≤ 1000) = true := by simp; omega
        by_cases z1 : 1200 ≤ size
        · by_cases z2 : size ≤ 65527
          · go_wp2_with fail
            go_ret2
            exact ⟨.inr ⟨_, _, rfl, by omega, by omega, by omega, hall, hown⟩, hb⟩
          · go_wp2_with fail
            go_ret2
            exact ⟨.inl ⟨_, rfl⟩, hb⟩
        · go_wp2_with fail
          go_ret2
          exact ⟨.inl ⟨_, rfl⟩, hb⟩
      · have y0 : decide ((ops.length : Int) ≤ 1000) = false := by simp; omega
        go_wp2_with fail
        go_ret2
        exact ⟨.inl ⟨_, rfl⟩, hb⟩

end Go.Proofs.Ytpaociigfbibbaa

