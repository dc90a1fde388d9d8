/-
  A region that draws its order, whose operations read old memory alone and whose callees make new memory: one walk in the order of the text. The class of worlds: those in which nothing that was there has turned.
-/
import Derived.WalkKit
import Derived.Deep.QuietTactic
import Derived.BigQuiet
namespace Go.Proofs.Qxb6617398a
open Go.RowKit

/-- A world in which nothing that was there in w has turned. -/
structure Later (w : World) where
  world : World
  below : Below w.heap.size w world

theorem Later.cell {w : World} (x : Later w) {a : Addr} {v : Value} (h : w.cell? a = some v) : x.world.cell? a = some v := by
  rw [x.below.cell (World.block_lt_of_cell? _ _ h)]; exact h

theorem wp_region_later {P : Program} {id : Nat} {Q : Exit → Act → World → Prop} {a : Act} {w : World} {l : List Oper} (hm : P.follows .mixedOrders = true) (hB : Region.lexB .any l.toArray = true)
    (h : wpQuiet P l.toArray (fun w' => ∃ x : Later w, w' = x.world) (fun a' => ∀ w', (∃ x : Later w, w' = x.world) → Q .normal a' w') l a) : (Code.region id l.toArray true).wp P Q a w :=
  wp_region_quiet (C := fun w' => ∃ x : Later w, w' = x.world) hm hB ⟨⟨w.drew, (Below.refl _ _).drew⟩, rfl⟩ (by simpa using h)

/-- The same from a later world on. -/
theorem wp_region_laterx {P : Program} {id : Nat} {Q : Exit → Act → World → Prop} {a : Act} {w : World} {x : Later w} {l : List Oper} (hm : P.follows .mixedOrders = true) (hB : Region.lexB .any l.toArray = true)
    (h : wpQuiet P l.toArray (fun w' => ∃ x : Later w, w' = x.world) (fun a' => ∀ w', (∃ x : Later w, w' = x.world) → Q .normal a' w') l a) : (Code.region id l.toArray true).wp P Q a x.world :=
  wp_region_quiet (C := fun w' => ∃ x : Later w, w' = x.world) hm hB ⟨⟨x.world.drew, x.below.drew⟩, rfl⟩ (by simpa using h)

/-- A later world of its own. -/
def Later.self (w : World) : Later w := ⟨w, Below.refl _ _⟩
theorem Later.inh (w : World) : Nonempty (Later w) := ⟨Later.self w⟩

/-- A callee's contract, met in a later world. -/
theorem Later.calls {P : Program} {f : FuncId} {args : Array Value} {w : World} {x : Later w} {v : Value} (h : Calls P f args x.world fun e w' => e = .returned v ∧ Below x.world.heap.size x.world w') :
    Calls P f args x.world fun e w'' => e = .returned v ∧ ∃ y : Later w, w'' = y.world :=
  h.mono fun _ _ ⟨he, hb⟩ => ⟨he, ⟨_, x.below.trans (hb.mono x.below.size)⟩, rfl⟩

end Go.Proofs.Qxb6617398a
