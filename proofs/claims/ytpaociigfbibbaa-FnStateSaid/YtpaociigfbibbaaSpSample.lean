/-
  The reference: the contract of its sample.
-/
import Derived.Test.YtpaociigfbibbaaSpec
namespace Go.Proofs.Ytpaociigfbibbaa
open Go.RowKit
attribute [local go_sem ↓] sp_min sp_max

def spDelay (v : Bool) (delay limit : Int) : Int := if v then min delay limit else delay
def spAdj (s : Sp) (v : Bool) (latest delay limit : Int) : Int := if min s.least latest + spDelay v delay limit ≤ latest then latest - spDelay v delay limit else latest
def spSample (s : Sp) (v : Bool) (latest delay limit : Int) : Sp :=
  if s.least < 0 then { s with least := latest, smooth := latest, dev := latest / 2 }
  else { s with least := min s.least latest, smooth := (7 * s.smooth + spAdj s v latest delay limit) / 8,
                dev := (3 * s.dev + max (s.smooth - spAdj s v latest delay limit) (spAdj s v latest delay limit - s.smooth)) / 4 }

theorem sp_first (s : Sp) (v : Bool) (latest delay limit : Int) (h : s.least < 0) :
    spCells (spSample s v latest delay limit) = (((spCells s).setIfInBounds 8 (.int .i64 latest)).setIfInBounds 9 (.int .i64 latest)).setIfInBounds 10 (.int .i64 (latest / 2)) := by
  simp [spCells, spSample, h]
theorem sp_least (s : Sp) (m : Int) : spCells { s with least := m } = (spCells s).setIfInBounds 8 (.int .i64 m) := by simp [spCells]
theorem sp_next (s : Sp) (v : Bool) (latest delay limit m a z : Int) (h : ¬ s.least < 0) (hm : min s.least latest = m) (ha : spAdj s v latest delay limit = a) (hz : max (s.smooth - a) (a - s.smooth) = z) :
    spCells (spSample s v latest delay limit) = ((spCells { s with least := m }).setIfInBounds 10 (.int .i64 ((3 * s.dev + z) / 4))).setIfInBounds 9 (.int .i64 ((7 * s.smooth + a) / 8)) := by
  subst hm ha hz
  simp [spCells, spSample, h]

set_option maxRecDepth 100000 in
set_option maxHeartbeats 8000000 in
theorem spSample_any (b : Nat) (s : Sp) (kind space now time num size latest delay limit : Int) (el inf v : Bool) (w : World) (hB : Blk w b 39 (spCells s))
    (hl0 : 0 ≤ latest) (hl1 : latest ≤ 1099511627776) (hd0 : 0 ≤ delay) (hd1 : delay ≤ 1099511627776) (ht0 : 0 ≤ limit) (ht1 : limit ≤ 1099511627776)
    (hs0 : 0 ≤ s.smooth) (hs1 : s.smooth ≤ 1099511627776) (hv0 : 0 ≤ s.dev) (hv1 : s.dev ≤ 1099511627776) (hmin1 : s.least ≤ 1099511627776) :
    Calls Try.prog 18 #[.pointer (some ⟨b, 0, none⟩), .agg #[.int .i64 kind, .int .i64 space, .int .i64 now, .int .i64 time, .int .i64 num, .int .i64 size, .bool el, .bool inf, .bool v, .int .i64 latest, .int .i64 delay, .int .i64 limit]] w fun e w' =>
      e = .returned (.tuple #[]) ∧ Blk w' b 39 (spCells (spSample s v latest delay limit)) ∧ Only b b w w' := by
  have lb := hB.lt
  go_enter Try.func18, Try.ntmps18
  go_upto_region 1 with (fail)
  refine wp_forget (fun w' => Blk w' b 39 (spCells s) ∧ Blk w' w.heap.size 34 #[.int .i64 kind, .int .i64 space, .int .i64 now, .int .i64 time, .int .i64 num, .int .i64 size, .bool el, .bool inf, .bool v, .int .i64 latest, .int .i64 delay, .int .i64 limit] ∧ Only b b w w')
    ⟨hB.alloc _, Blk.new _ _ _, (Only.refl b b w).alloc _⟩ ?_
  rintro W ⟨b1, b2, b3⟩
  clear hB
  have ne : w.heap.size ≠ b := by omega
  have f8 := b1.frozen 8
  have f9 := b1.frozen 9
  have f10 := b1.frozen 10
  have c8 : W.cell? ⟨b, 8, none⟩ = some (.int .i64 s.least) := b1.cell 8
  have c9 : W.cell? ⟨b, 9, none⟩ = some (.int .i64 s.smooth) := b1.cell 9
  have c10 : W.cell? ⟨b, 10, none⟩ = some (.int .i64 s.dev) := b1.cell 10
  have p8 : W.cell? ⟨w.heap.size, 8, none⟩ = some (.bool v) := b2.cell 8
  have p9 : W.cell? ⟨w.heap.size, 9, none⟩ = some (.int .i64 latest) := b2.cell 9
  have p10 : W.cell? ⟨w.heap.size, 10, none⟩ = some (.int .i64 delay) := b2.cell 10
  have p11 : W.cell? ⟨w.heap.size, 11, none⟩ = some (.int .i64 limit) := b2.cell 11
  by_cases h : s.least < 0
  · have He := Lib.hid (sp_first s v latest delay limit h)
    clear p8 p10 p11
    go_upto_region 2 with (fail)
    go_region
    all_goals
      go_wp2_with fail
      refine bodyPost_ret (results_none rfl _ _ _) rfl ?_
      refine ⟨rfl, ?_, ?_⟩
      · rw [He.out]
        repeat (with_reducible (first | assumption | refine Blk.drew ?_ | refine Blk.drewN ?_ _ | refine Blk.put ?_ _ _))
      · repeat (with_reducible (first | assumption | refine Only.drew ?_ | refine Only.drewN ?_ _ | refine Only.put ?_ _ _))
  · obtain ⟨m, hm⟩ : ∃ m, min s.least latest = m := ⟨_, rfl⟩
    have hm0 : 0 ≤ m := by omega
    have hm1 : m ≤ latest := by omega
    have Hm := Lib.hid hm
    have Hh := Lib.hid h
    clear hm h
    go_upto_region 3 with (fail)
    go_cut [] (fun w' => Blk w' b 39 (spCells { s with least := m }) ∧ Blk w' w.heap.size 34 #[.int .i64 kind, .int .i64 space, .int .i64 now, .int .i64 time, .int .i64 num, .int .i64 size, .bool el, .bool inf, .bool v, .int .i64 latest, .int .i64 delay, .int .i64 limit] ∧ Only b b w w')
    case first =>
      clear p8 p10 p11
      have e : min s.least latest = m := Hm.out
      go_region
      all_goals
        go_wp2_with fail
        go_meet
        refine ⟨?_, ?_, ?_⟩
        · rw [sp_least]
          repeat (with_reducible (first | assumption | refine Blk.drew ?_ | refine Blk.drewN ?_ _ | refine Blk.put ?_ _ _))
        · repeat (with_reducible (first | assumption | refine Blk.drew ?_ | refine Blk.drewN ?_ _ | refine Blk.far ?_ ne _))
        · repeat (with_reducible (first | assumption | refine Only.drew ?_ | refine Only.drewN ?_ _ | refine Only.put ?_ _ _))
    case rest =>
      obtain ⟨d1, d2, d3⟩ := hcut
      clear b1 b2 b3 f8 f9 f10 c8 c9 c10 p8 p9 p10 p11
      have f9 := d1.frozen 9
      have f10 := d1.frozen 10
      have c8 : wc.cell? ⟨b, 8, none⟩ = some (.int .i64 m) := d1.cell 8
      have c9 : wc.cell? ⟨b, 9, none⟩ = some (.int .i64 s.smooth) := d1.cell 9
      have c10 : wc.cell? ⟨b, 10, none⟩ = some (.int .i64 s.dev) := d1.cell 10
      have p8 : wc.cell? ⟨w.heap.size, 8, none⟩ = some (.bool v) := d2.cell 8
      have p9 : wc.cell? ⟨w.heap.size, 9, none⟩ = some (.int .i64 latest) := d2.cell 9
      have p10 : wc.cell? ⟨w.heap.size, 10, none⟩ = some (.int .i64 delay) := d2.cell 10
      have p11 : wc.cell? ⟨w.heap.size, 11, none⟩ = some (.int .i64 limit) := d2.cell 11
      obtain ⟨D, hD⟩ : ∃ D, spDelay v delay limit = D := ⟨_, rfl⟩
      have hD0 : 0 ≤ D := by rw [← hD]; unfold spDelay; split <;> omega
      have hD1 : D ≤ 1099511627776 := by rw [← hD]; unfold spDelay; split <;> omega
      obtain ⟨a, ha⟩ : ∃ a, spAdj s v latest delay limit = a := ⟨_, rfl⟩
      have ha0 : 0 ≤ a ∧ a ≤ latest ∧ (m + D ≤ latest → a = latest - D) ∧ (¬ m + D ≤ latest → a = latest) := by
        unfold spAdj at ha
        rw [hD, Hm.out] at ha
        split at ha <;> omega
      obtain ⟨ha0, ha1, ha2, ha3⟩ := ha0
      obtain ⟨z, hz⟩ : ∃ z, max (s.smooth - a) (a - s.smooth) = z := ⟨_, rfl⟩
      have hz0 : 0 ≤ z := by omega
      have hz1 : z ≤ 1099511627776 := by omega
      have He := Lib.hid (sp_next s v latest delay limit m a z Hh.out Hm.out ha hz)
      have HD := Lib.hid hD
      have Ha2 := Lib.hid ha2
      have Ha3 := Lib.hid ha3
      have Hz := Lib.hid hz
      clear hD ha ha2 ha3 hz
      go_upto_if 40 with (fail)
      go_cut [4] (fun s4 w' => s4 = .int .i64 D ∧ w' = wc)
      case first =>
        rcases v with _ | _
        · have e : delay = D := HD.out
          subst e
          go_wp2_with fail
          go_meet
          exact ⟨rfl, rfl⟩
        · have e : min delay limit = D := HD.out
          go_wp2_with fail
          go_meet
          exact ⟨rfl, rfl⟩
      case rest =>
        obtain ⟨rfl, rfl⟩ := hcut
        go_upto_region 8 with (fail)
        have hw : IntKind.i64.wrap (m + D) = m + D := IntWalk.i64_in _ (by omega)
        go_quiet (fail)
        go_upto_if 55 with (fail)
        go_cut [5] (fun s5 w' => s5 = .int .i64 a ∧ Blk w' b 39 (spCells { s with least := m }) ∧ Only b b w w')
        case first =>
          by_cases hc : m + D ≤ latest
          · have e := Ha2.out hc
            subst e
            go_wp2_with fail
            go_meet
            exact ⟨rfl, d1.drewN _, d3.drewN _⟩
          · have e := Ha3.out hc
            subst e
            go_wp2_with fail
            go_meet
            exact ⟨rfl, d1.drewN _, d3.drewN _⟩
        case rest =>
          clear d1 d3 d2 f9 f10 c8 c9 c10 p8 p9 p10 p11 hw
          obtain ⟨rfl, d1, d3⟩ := hcut
          clear HD Ha2 Ha3 Hm Hh hD0 hD1 hm0 hm1
          have f9 := d1.frozen 9
          have f10 := d1.frozen 10
          have c9 : wc.cell? ⟨b, 9, none⟩ = some (.int .i64 s.smooth) := d1.cell 9
          have c10 : wc.cell? ⟨b, 10, none⟩ = some (.int .i64 s.dev) := d1.cell 10
          have e : max (s.smooth - a) (a - s.smooth) = z := Hz.out
          have w1 : IntKind.i64.wrap (s.smooth - a) = s.smooth - a := IntWalk.i64_in _ (by omega)
          have w2 : IntKind.i64.wrap (a - s.smooth) = a - s.smooth := IntWalk.i64_in _ (by omega)
          have w3 : IntKind.i64.wrap (3 * s.dev) = 3 * s.dev := IntWalk.i64_in _ (by omega)
          have w4 : IntKind.i64.wrap (3 * s.dev + z) = 3 * s.dev + z := IntWalk.i64_in _ (by omega)
          go_upto_region 10 with (fail)
          go_region
          all_goals
            go_wp2_with fail
            go_end0
            refine ⟨rfl, ?_, ?_⟩
            · rw [He.out]
              repeat (with_reducible (first | assumption | refine Blk.drew ?_ | refine Blk.drewN ?_ _ | refine Blk.put ?_ _ _))
            · repeat (with_reducible (first | assumption | refine Only.drew ?_ | refine Only.drewN ?_ _ | refine Only.put ?_ _ _))

end Go.Proofs.Ytpaociigfbibbaa
