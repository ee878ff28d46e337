/-
  The reference: the end of Next.
-/
import Derived.Test.YtpaociigfbibbaaSpModel
namespace Go.Proofs.Ytpaociigfbibbaa
open Go.RowKit
attribute [local go_sem ↓] sp_min sp_max

/-- What stands behind the second statement of a body. -/
def tailOf (b : Option Code) : Code := match b with | some (.seq _ (.seq _ c)) => c | _ => .skip

set_option maxRecDepth 100000 in
set_option maxHeartbeats 16000000 in
theorem next_tail (s : Sp) (o : Call) (t : Sp) (w wc : World) (u0 u1 u3 u5 u6 u7 u8 u9 u10 u11 u12 u13 u14 u15 u16 u17 u18 u19 u20 u21 u22 u23 u24 u25 u26 u27 u28 u29 u30 u31 u32 u33 u34 u35 u36 u37 u38 u39 u40 u41 u42 u43 u44 u45 u46 u47 u48 u49 u50 u51 u52 u53 u54 u55 u56 u57 u58 u59 u60 u61 u62 u63 u64 u65 u66 u67 u68 u69 u70 u71 u72 u73 u74 u75 u76 u77 u78 u79 u80 u81 u82 u83 u84 u85 u86 u87 u88 u89 u90 u91 u92 u93 u94 u95 u96 u97 u98 u99 u100 u101 u102 u103 u104 u105 u106 u107 u108 u109 u110 u111 u112 u113 u114 u115 u116 u117 u118 u119 u120 u121 u122 u123 u124 u125 u126 u127 u128 u129 u130 u131 u132 u133 u134 u135 u136 u137 u138 u139 u140 u141 u142 u143 u144 u145 u146 u147 u148 u149 u150 u151 u152 u153 u154 u155 u156 u157 u158 u159 u160 u161 u162 u163 u164 u165 u166 u167 u168 u169 u170 u171 u172 u173 u174 u175 : Value) (b1 : Blk wc (w.heap.size) 39 (spCells t)) (b3 : Blk wc (w.heap.size + 2) 39 #[.int .i64 0, .int .i64 0, .int .i64 0, .int .i64 0, .bool false, .bool false, .bool false, .bool false, .int .i64 0, .int .i64 0, .int .i64 0, .int .i64 0, .int .i64 0, .bool false, .int .i64 0]) (b4 : Below w.heap.size w wc) (ht : spBody s o = t)
    (hq0 : -1099511627776 ≤ t.flight) (hq1 : t.flight ≤ 1099511627776) (tz0 : 1200 ≤ t.size) (tz1 : t.size ≤ 65527) :
    Code.wp Try.prog (tailOf Try.f15.body) (bodyPost Try.prog Try.f15 fun e w' => e = .returned (.agg (spCells (spNext s o))) ∧ Below w.heap.size w w') ⟨#[u0, u1, .pointer (some ⟨w.heap.size, 0, none⟩), u3, .pointer (some ⟨w.heap.size + 1 + 1, 0, none⟩), u5, u6, u7, u8, u9, u10, u11, u12, u13, u14, u15, u16, u17, u18, u19, u20, u21, u22, u23, u24, u25, u26, u27, u28, u29, u30, u31, u32, u33, u34, u35, u36, u37, u38, u39, u40, u41, u42, u43, u44, u45, u46, u47, u48, u49, u50, u51, u52, u53, u54, u55, u56, u57, u58, u59, u60, u61, u62, u63, u64, u65, u66, u67, u68, u69, u70, u71, u72, u73, u74, u75, u76, u77, u78, u79, u80, u81, u82, u83, u84, u85, u86, u87, u88, u89, u90, u91, u92, u93, u94, u95, u96, u97, u98, u99, u100, u101, u102, u103, u104, u105, u106, u107, u108, u109, u110, u111, u112, u113, u114, u115, u116, u117, u118, u119, u120, u121, u122, u123, u124, u125, u126, u127, u128, u129, u130, u131, u132, u133, u134, u135, u136, u137, u138, u139, u140, u141, u142, u143, u144, u145, u146, u147, u148, u149, u150, u151, u152, u153, u154, u155, u156, u157, u158, u159, u160, u161, u162, u163, u164, u165, u166, u167, u168, u169, u170, u171, u172, u173, u174, u175], []⟩ wc := by
  delta tailOf
  dsimp only [Try.f15]
  have hw : IntKind.i64.wrap (t.flight + t.size) = t.flight + t.size := IntWalk.i64_in _ (by omega)
  have ne : w.heap.size + 2 ≠ w.heap.size := by omega
  rcases hone : t.one with _ | _
  · have c0 : wc.cell? ⟨w.heap.size, 0, none⟩ = some (.int .i64 t.window) := b1.cell 0
    have c1 : wc.cell? ⟨w.heap.size, 1, none⟩ = some (.int .i64 t.flight) := b1.cell 1
    have c2 : wc.cell? ⟨w.heap.size, 2, none⟩ = some (.int .i64 t.thresh) := b1.cell 2
    have c3 : wc.cell? ⟨w.heap.size, 3, none⟩ = some (.int .i64 t.pend) := b1.cell 3
    have c4 : wc.cell? ⟨w.heap.size, 4, none⟩ = some (.bool t.can) := b1.cell 4
    have c5 : wc.cell? ⟨w.heap.size, 5, none⟩ = some (.bool false) := hone ▸ b1.cell 5
    have c6 : wc.cell? ⟨w.heap.size, 6, none⟩ = some (.bool t.inr) := b1.cell 6
    have c7 : wc.cell? ⟨w.heap.size, 7, none⟩ = some (.bool t.lim) := b1.cell 7
    have c8 : wc.cell? ⟨w.heap.size, 8, none⟩ = some (.int .i64 t.least) := b1.cell 8
    have c9 : wc.cell? ⟨w.heap.size, 9, none⟩ = some (.int .i64 t.smooth) := b1.cell 9
    have c10 : wc.cell? ⟨w.heap.size, 10, none⟩ = some (.int .i64 t.dev) := b1.cell 10
    have c11 : wc.cell? ⟨w.heap.size, 11, none⟩ = some (.int .i64 t.start) := b1.cell 11
    have c12 : wc.cell? ⟨w.heap.size, 12, none⟩ = some (.int .i64 t.last) := b1.cell 12
    have c13 : wc.cell? ⟨w.heap.size, 13, none⟩ = some (.bool t.loss) := b1.cell 13
    have c14 : wc.cell? ⟨w.heap.size, 14, none⟩ = some (.int .i64 t.size) := b1.cell 14
    have f4 := b1.frozen 4
    have r0 : wc.cell? ⟨w.heap.size + 2, 0, none⟩ = some (.int .i64 0) := b3.cell 0
    have g0 := b3.frozen 0
    have r1 : wc.cell? ⟨w.heap.size + 2, 1, none⟩ = some (.int .i64 0) := b3.cell 1
    have g1 := b3.frozen 1
    have r2 : wc.cell? ⟨w.heap.size + 2, 2, none⟩ = some (.int .i64 0) := b3.cell 2
    have g2 := b3.frozen 2
    have r3 : wc.cell? ⟨w.heap.size + 2, 3, none⟩ = some (.int .i64 0) := b3.cell 3
    have g3 := b3.frozen 3
    have r4 : wc.cell? ⟨w.heap.size + 2, 4, none⟩ = some (.bool false) := b3.cell 4
    have g4 := b3.frozen 4
    have r5 : wc.cell? ⟨w.heap.size + 2, 5, none⟩ = some (.bool false) := b3.cell 5
    have g5 := b3.frozen 5
    have r6 : wc.cell? ⟨w.heap.size + 2, 6, none⟩ = some (.bool false) := b3.cell 6
    have g6 := b3.frozen 6
    have r7 : wc.cell? ⟨w.heap.size + 2, 7, none⟩ = some (.bool false) := b3.cell 7
    have g7 := b3.frozen 7
    have r8 : wc.cell? ⟨w.heap.size + 2, 8, none⟩ = some (.int .i64 0) := b3.cell 8
    have g8 := b3.frozen 8
    have r9 : wc.cell? ⟨w.heap.size + 2, 9, none⟩ = some (.int .i64 0) := b3.cell 9
    have g9 := b3.frozen 9
    have r10 : wc.cell? ⟨w.heap.size + 2, 10, none⟩ = some (.int .i64 0) := b3.cell 10
    have g10 := b3.frozen 10
    have r11 : wc.cell? ⟨w.heap.size + 2, 11, none⟩ = some (.int .i64 0) := b3.cell 11
    have g11 := b3.frozen 11
    have r12 : wc.cell? ⟨w.heap.size + 2, 12, none⟩ = some (.int .i64 0) := b3.cell 12
    have g12 := b3.frozen 12
    have r13 : wc.cell? ⟨w.heap.size + 2, 13, none⟩ = some (.bool false) := b3.cell 13
    have g13 := b3.frozen 13
    have r14 : wc.cell? ⟨w.heap.size + 2, 14, none⟩ = some (.int .i64 0) := b3.cell 14
    have g14 := b3.frozen 14
    have hn : spNext s o = { t with one := false, can := decide (t.flight + t.size ≤ t.window) } := by simp [spNext, ht, hone]
    have Hn := Lib.hid hn
    clear hn ht hone
    go_wp2_with fail
    refine bodyPost_ret (v := .agg (spCells { t with one := false, can := decide (t.flight + t.size ≤ t.window) })) (by simp [results, go_sem, spCells, r0, r1, r2, r3, r4, r5, r6, r7, r8, r9, r10, r11, r12, r13, r14]) rfl ⟨by rw [Hn.out], ?_⟩
    repeat (with_reducible (first | assumption | refine Below.drew ?_ | refine below_drewN ?_ _ | refine Below.setCell ?_ (by first | exact Nat.le_refl _ | exact Nat.le_trans (Nat.le_add_right _ _) (Nat.le_add_right _ _)) _))
  · have c0 : wc.cell? ⟨w.heap.size, 0, none⟩ = some (.int .i64 t.window) := b1.cell 0
    have c1 : wc.cell? ⟨w.heap.size, 1, none⟩ = some (.int .i64 t.flight) := b1.cell 1
    have c2 : wc.cell? ⟨w.heap.size, 2, none⟩ = some (.int .i64 t.thresh) := b1.cell 2
    have c3 : wc.cell? ⟨w.heap.size, 3, none⟩ = some (.int .i64 t.pend) := b1.cell 3
    have c4 : wc.cell? ⟨w.heap.size, 4, none⟩ = some (.bool t.can) := b1.cell 4
    have c5 : wc.cell? ⟨w.heap.size, 5, none⟩ = some (.bool true) := hone ▸ b1.cell 5
    have c6 : wc.cell? ⟨w.heap.size, 6, none⟩ = some (.bool t.inr) := b1.cell 6
    have c7 : wc.cell? ⟨w.heap.size, 7, none⟩ = some (.bool t.lim) := b1.cell 7
    have c8 : wc.cell? ⟨w.heap.size, 8, none⟩ = some (.int .i64 t.least) := b1.cell 8
    have c9 : wc.cell? ⟨w.heap.size, 9, none⟩ = some (.int .i64 t.smooth) := b1.cell 9
    have c10 : wc.cell? ⟨w.heap.size, 10, none⟩ = some (.int .i64 t.dev) := b1.cell 10
    have c11 : wc.cell? ⟨w.heap.size, 11, none⟩ = some (.int .i64 t.start) := b1.cell 11
    have c12 : wc.cell? ⟨w.heap.size, 12, none⟩ = some (.int .i64 t.last) := b1.cell 12
    have c13 : wc.cell? ⟨w.heap.size, 13, none⟩ = some (.bool t.loss) := b1.cell 13
    have c14 : wc.cell? ⟨w.heap.size, 14, none⟩ = some (.int .i64 t.size) := b1.cell 14
    have f4 := b1.frozen 4
    have r0 : wc.cell? ⟨w.heap.size + 2, 0, none⟩ = some (.int .i64 0) := b3.cell 0
    have g0 := b3.frozen 0
    have r1 : wc.cell? ⟨w.heap.size + 2, 1, none⟩ = some (.int .i64 0) := b3.cell 1
    have g1 := b3.frozen 1
    have r2 : wc.cell? ⟨w.heap.size + 2, 2, none⟩ = some (.int .i64 0) := b3.cell 2
    have g2 := b3.frozen 2
    have r3 : wc.cell? ⟨w.heap.size + 2, 3, none⟩ = some (.int .i64 0) := b3.cell 3
    have g3 := b3.frozen 3
    have r4 : wc.cell? ⟨w.heap.size + 2, 4, none⟩ = some (.bool false) := b3.cell 4
    have g4 := b3.frozen 4
    have r5 : wc.cell? ⟨w.heap.size + 2, 5, none⟩ = some (.bool false) := b3.cell 5
    have g5 := b3.frozen 5
    have r6 : wc.cell? ⟨w.heap.size + 2, 6, none⟩ = some (.bool false) := b3.cell 6
    have g6 := b3.frozen 6
    have r7 : wc.cell? ⟨w.heap.size + 2, 7, none⟩ = some (.bool false) := b3.cell 7
    have g7 := b3.frozen 7
    have r8 : wc.cell? ⟨w.heap.size + 2, 8, none⟩ = some (.int .i64 0) := b3.cell 8
    have g8 := b3.frozen 8
    have r9 : wc.cell? ⟨w.heap.size + 2, 9, none⟩ = some (.int .i64 0) := b3.cell 9
    have g9 := b3.frozen 9
    have r10 : wc.cell? ⟨w.heap.size + 2, 10, none⟩ = some (.int .i64 0) := b3.cell 10
    have g10 := b3.frozen 10
    have r11 : wc.cell? ⟨w.heap.size + 2, 11, none⟩ = some (.int .i64 0) := b3.cell 11
    have g11 := b3.frozen 11
    have r12 : wc.cell? ⟨w.heap.size + 2, 12, none⟩ = some (.int .i64 0) := b3.cell 12
    have g12 := b3.frozen 12
    have r13 : wc.cell? ⟨w.heap.size + 2, 13, none⟩ = some (.bool false) := b3.cell 13
    have g13 := b3.frozen 13
    have r14 : wc.cell? ⟨w.heap.size + 2, 14, none⟩ = some (.int .i64 0) := b3.cell 14
    have g14 := b3.frozen 14
    have hn : spNext s o = { t with one := true, can := true } := by simp [spNext, ht, hone]
    have Hn := Lib.hid hn
    clear hn ht hone
    go_wp2_with fail
    refine bodyPost_ret (v := .agg (spCells { t with one := true, can := true })) (by simp [results, go_sem, spCells, r0, r1, r2, r3, r4, r5, r6, r7, r8, r9, r10, r11, r12, r13, r14]) rfl ⟨by rw [Hn.out], ?_⟩
    repeat (with_reducible (first | assumption | refine Below.drew ?_ | refine below_drewN ?_ _ | refine Below.setCell ?_ (by first | exact Nat.le_refl _ | exact Nat.le_trans (Nat.le_add_right _ _) (Nat.le_add_right _ _)) _))


end Go.Proofs.Ytpaociigfbibbaa
