/-
  THE MODEL: plain Lean, no program. A controller of congestion and estimates of the round-trip time as the laid package keeps them; a time is one number, nanoseconds since the beginning of year 1 (0: no time).
-/
import Derived.Test.YtpaociigfbibbaaTime
namespace Go.Proofs.Ytpaociigfbibbaa
open Go.RowKit

/-- One call. -/
structure Call where
  kind : Int
  space : Int
  now : Int
  time : Int
  num : Int
  size : Int
  el : Bool
  inf : Bool
  v : Bool
  latest : Int
  delay : Int
  limit : Int

/-- The controller. -/
structure Ctl where
  size : Int
  window : Int
  flight : Int
  thresh : Int
  recov : Int
  pend : Int
  one : Bool
  inr : Bool
  under : Bool
  last : Int
  s0 : Int
  e0 : Int
  n0 : Int
  s1 : Int
  e1 : Int
  n1 : Int
  s2 : Int
  e2 : Int
  n2 : Int

/-- The estimates. -/
structure Rtt where
  least : Int
  latest : Int
  smooth : Int
  dev : Int
  first : Int

def ctlCells (c : Ctl) : Array Value :=
  #[.int .i64 c.size, .int .i64 c.window, .int .i64 c.flight, .int .i64 c.thresh, .int .u64 (wl c.recov), .int .i64 (ex c.recov), .int .i64 c.pend, .bool c.one, .bool c.inr, .bool c.under,
    .int .u64 (wl c.last), .int .i64 (ex c.last),
    .int .u64 (wl c.s0), .int .i64 (ex c.s0), .int .u64 (wl c.e0), .int .i64 (ex c.e0), .int .i64 c.n0,
    .int .u64 (wl c.s1), .int .i64 (ex c.s1), .int .u64 (wl c.e1), .int .i64 (ex c.e1), .int .i64 c.n1,
    .int .u64 (wl c.s2), .int .i64 (ex c.s2), .int .u64 (wl c.e2), .int .i64 (ex c.e2), .int .i64 c.n2]
def rttCells (r : Rtt) : Array Value := #[.int .i64 r.least, .int .i64 r.latest, .int .i64 r.smooth, .int .i64 r.dev, .int .u64 (wl r.first), .int .i64 (ex r.first)]
def packetCells (num size time : Int) (el inf : Bool) : Array Value := #[.int .i64 num, .int .i64 size, .int .u64 (wl time), .int .i64 (ex time), .bool el, .bool inf]

/-! Blocks that are known whole. -/
def Blk (w : World) (g : Nat) (t : TypeId) (cs : Array Value) : Prop := w.heap[g]? = some (.cells cs t (0, 0))

section
variable {w w' : World} {g : Nat} {t : TypeId} {cs : Array Value}
theorem Blk.lt (h : Blk w g t cs) : g < w.heap.size := by
  rcases Nat.lt_or_ge g w.heap.size with hlt | hge
  · exact hlt
  · unfold Blk at h; rw [Array.getElem?_eq_none hge] at h; cases h
theorem Blk.cell (h : Blk w g t cs) (i : Nat) : w.cell? ⟨g, i, none⟩ = cs[i]? := cell_of_row w g i cs t (0, 0) h
theorem Blk.frozen (h : Blk w g t cs) (i : Nat) : w.frozen? ⟨g, i, none⟩ = false := by
  unfold Blk at h
  simp [World.frozen?, h]
theorem Blk.new (w : World) (t : TypeId) (cs : Array Value) : Blk (w.alloc (.cells cs t)) w.heap.size t cs := heap_alloc_new w _
theorem Blk.drew (h : Blk w g t cs) : Blk w.drew g t cs := h
theorem Blk.drewN (h : Blk w g t cs) (n : Nat) : Blk (w.drewN n) g t cs := h
theorem Blk.alloc (h : Blk w g t cs) (o : Obj) : Blk (w.alloc o) g t cs := (Below.heap_alloc w o g h.lt).trans h
theorem Blk.put (h : Blk w g t cs) (i : Nat) (u : Value) : Blk (w.setCell ⟨g, i, none⟩ u) g t (cs.setIfInBounds i u) := by
  unfold Blk at h ⊢
  simp [World.setCell, Array.getElem?_modify, h]
theorem Blk.far (h : Blk w g t cs) {p : Addr} (hp : g ≠ p.block) (u : Value) : Blk (w.setCell p u) g t cs := (Below.heap_setCell w p u g hp).trans h
theorem Blk.below {B : Nat} (h : Blk w g t cs) (hb : Below B w w') (hg : g < B) : Blk w' g t cs := (hb.block g hg).trans h
theorem Blk.later (h : Blk w g t cs) (hb : Below w.heap.size w w') : Blk w' g t cs := (hb.block g h.lt).trans h
theorem Blk.grown {row : Option Nat} (h : Blk w g t cs) (hb : w.grownBy w' row) (hg : some g ≠ row) : Blk w' g t cs := (hb.block g h.lt hg).trans h
theorem Blk.apart {g' : Nat} {t' : TypeId} {cs' : Array Value} (h : Blk w g t cs) (h' : Blk w g' t' cs') (hne : t ≠ t') : g ≠ g' := by
  rintro rfl
  unfold Blk at h h'
  rw [h] at h'
  injection h' with h'
  injection h' with _ ht
  exact hne ht
end

/-- Of the blocks that w has, w' may have other content in g and q alone. -/
structure Only (g q : Nat) (w w' : World) : Prop where
  os : w'.os = w.os
  tape : w'.tape = w.tape
  output : w'.output = w.output
  size : w.heap.size ≤ w'.heap.size
  block : ∀ k, k < w.heap.size → k ≠ g → k ≠ q → w'.heap[k]? = w.heap[k]?

section
variable {g q : Nat} {a w w' : World}
theorem Only.refl (g q : Nat) (w : World) : Only g q w w := ⟨rfl, rfl, rfl, Nat.le_refl _, fun _ _ _ _ => rfl⟩
theorem Only.trans {c : World} (h : Only g q a w) (k : Only g q w c) : Only g q a c :=
  ⟨k.os.trans h.os, k.tape.trans h.tape, k.output.trans h.output, Nat.le_trans h.size k.size, fun i hi h1 h2 => (k.block i (Nat.lt_of_lt_of_le hi h.size) h1 h2).trans (h.block i hi h1 h2)⟩
theorem Only.below (h : Only g q a w) (hb : Below w.heap.size w w') : Only g q a w' :=
  h.trans ⟨hb.os, hb.tape, hb.output, hb.size, fun k hk _ _ => hb.block k hk⟩
theorem Only.drew (h : Only g q a w) : Only g q a w.drew := ⟨h.os, h.tape, h.output, h.size, h.block⟩
theorem Only.drewN (h : Only g q a w) (n : Nat) : Only g q a (w.drewN n) := ⟨h.os, h.tape, h.output, h.size, h.block⟩
theorem Only.alloc (h : Only g q a w) (o : Obj) : Only g q a (w.alloc o) := h.below ((Below.refl _ _).alloc (Nat.le_refl _) o)
theorem Only.put (h : Only g q a w) (i : Nat) (u : Value) : Only g q a (w.setCell ⟨g, i, none⟩ u) :=
  h.trans ⟨rfl, rfl, rfl, by simp [World.setCell], fun k _ h1 _ => Below.heap_setCell w ⟨g, i, none⟩ u k h1⟩
theorem Only.put2 (h : Only g q a w) (i : Nat) (u : Value) : Only g q a (w.setCell ⟨q, i, none⟩ u) :=
  h.trans ⟨rfl, rfl, rfl, by simp [World.setCell], fun k _ _ h2 => Below.heap_setCell w ⟨q, i, none⟩ u k h2⟩
theorem Only.new (h : Only g q a w) {p : Addr} (hp : a.heap.size ≤ p.block) (u : Value) : Only g q a (w.setCell p u) :=
  ⟨h.os, h.tape, h.output, by simpa [World.setCell] using h.size, fun k hk h1 h2 => (Below.heap_setCell w p u k (by omega)).trans (h.block k hk h1 h2)⟩
theorem Only.blk {b : Nat} {t : TypeId} {cs : Array Value} (h : Only g q w w') (hb : Blk w b t cs) (h1 : b ≠ g) (h2 : b ≠ q) : Blk w' b t cs := (h.block b hb.lt h1 h2).trans hb
theorem Only.toBelow {B : Nat} (h : Only g q w w') (hB : B ≤ w.heap.size) (h1 : B ≤ g) (h2 : B ≤ q) : Below B w w' :=
  ⟨h.os, h.tape, h.output, h.size, fun k hk => h.block k (by omega) (by omega) (by omega)⟩
end

end Go.Proofs.Ytpaociigfbibbaa
