/-
  A region that draws its order, whose operations only read and whose callees make memory but leave what was there: one walk, in the order of the text.
  The class of worlds is 'all that was in W is there, and as it was'.
-/
import Derived.Test.YtpaociigfbibbaaModel
import Derived.BigQuiet
namespace Go.Proofs.Ytpaociigfbibbaa
open Go.RowKit

/-- A world in which all that was in W lies as it was. -/
structure Later (W : World) where
  val : World
  below : Below W.heap.size W val

instance (W : World) : Nonempty (Later W) := ⟨⟨W, Below.refl _ _⟩⟩

theorem Later.cell {W : World} {p : Addr} {v : Value} (h : W.cell? p = some v) (s : Later W) : s.val.cell? p = some v :=
  (s.below.cell (World.block_lt_of_cell? _ _ h)).trans h

theorem wp_region_later {P : Program} {id : Nat} {Q : Exit → Act → World → Prop} {a : Act} {w : World} {l : List Oper} (hm : P.follows .mixedOrders = true) (hB : Region.lexB .any l.toArray = true)
    (h : wpQuiet P l.toArray (fun w' => ∃ s : Later w, w' = s.val) (fun a' => ∀ w', (∃ s : Later w, w' = s.val) → Q .normal a' w') l a) : (Code.region id l.toArray true).wp P Q a w :=
  wp_region_quiet (C := fun w' => ∃ s : Later w, w' = s.val) hm hB ⟨⟨w.drew, (Below.refl _ _).drew⟩, rfl⟩ (by simpa using h)

/-- A callee's contract, met in a world of the class. -/
theorem later_of {P : Program} {f : FuncId} {args : Array Value} {W : World} {s : Later W} {v : Value}
    (h : Calls P f args s.val fun e w' => e = .returned v ∧ Below s.val.heap.size s.val w') : Calls P f args s.val fun e w'' => e = .returned v ∧ ∃ s' : Later W, w'' = s'.val :=
  h.mono fun _ _ ⟨he, hb⟩ => ⟨he, ⟨_, s.below.trans (hb.mono s.below.size)⟩, rfl⟩
theorem later_same {P : Program} {f : FuncId} {args : Array Value} {W : World} {s : Later W} {v : Value}
    (h : Calls P f args s.val fun e w' => e = .returned v ∧ s.val = w') : Calls P f args s.val fun e w'' => e = .returned v ∧ ∃ s' : Later W, w'' = s'.val :=
  h.mono fun _ _ ⟨he, hb⟩ => ⟨he, s, hb.symm⟩
theorem later_drew {P : Program} {f : FuncId} {args : Array Value} {W : World} {s : Later W} {v : Value}
    (h : Calls P f args s.val fun e w' => e = .returned v ∧ ∃ n, w' = s.val.drewN n) : Calls P f args s.val fun e w'' => e = .returned v ∧ ∃ s' : Later W, w'' = s'.val :=
  h.mono fun _ _ ⟨he, n, hb⟩ => ⟨he, ⟨s.val.drewN n, ⟨s.below.os, s.below.tape, s.below.output, s.below.size, s.below.block⟩⟩, hb⟩
end Go.Proofs.Ytpaociigfbibbaa
