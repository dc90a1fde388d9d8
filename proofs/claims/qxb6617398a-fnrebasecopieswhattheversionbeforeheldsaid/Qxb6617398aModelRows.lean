/-
  Rows of different types do not meet in memory.
-/
import Derived.Test.Qxb6617398aReb33
import Derived.Test.Qxb6617398aModelPlain
namespace Go.Proofs.Qxb6617398a
open Go.RowKit

theorem info59 : (Try.prog.info? 59).map (fun i => (i.zero, i.size, i.bytes)) = some (some (.agg #[.int .i64 0, .int .i64 0, .int .i64 0]), 3, 24) := by kernel_rfl
theorem info40 : (Try.prog.info? 40).map (fun i => (i.zero, i.size, i.bytes)) = some (some (.agg #[.int .i64 0, .int .i64 0, .slice none 0 0]), 3, 40) := by kernel_rfl
theorem info5 : (Try.prog.info? 5).map (fun i => (i.zero, i.size, i.bytes)) = some (some (.int .u8 0), 1, 1) := by kernel_rfl

/-- Block b of the world is a plain object of the type e. -/
def Typed (w : World) (b : Nat) (e : TypeId) : Prop := ∃ cur, w.heap[b]? = some (.cells cur e (0, 0))

theorem typed_ne {w : World} {base : Nat} {e e0 : TypeId} {size : Nat} {v : Value} {n : Nat} {xs : List Value} {b : Nat} (h : w.ownsRow base e size v n xs) (hb : Typed w b e0) (he : e ≠ e0) : some b ≠ v.ownBlock := by
  intro hv
  rcases h.2 with ⟨rfl, _⟩ | ⟨g, cap, cur, rfl, _, hg, _⟩
  · simp [Value.ownBlock] at hv
  · simp [Value.ownBlock] at hv
    subst hv
    obtain ⟨cur2, h2⟩ := hb
    rw [hg] at h2
    simp only [Option.some.injEq, Obj.cells.injEq] at h2
    exact he h2.2.1

theorem owns_typed {w : World} {base : Nat} {e : TypeId} {size : Nat} {v : Value} {n : Nat} {xs : List Value} (h : w.ownsRow base e size v n xs) : ∀ b, v.ownBlock = some b → Typed w b e := by
  intro b hv
  rcases h.2 with ⟨rfl, _⟩ | ⟨g, cap, cur, rfl, _, hg, _⟩
  · simp [Value.ownBlock] at hv
  · simp [Value.ownBlock] at hv
    subst hv
    exact ⟨cur, hg⟩

/-- A row of another type is not touched. -/
theorem owns_kept {w w' : World} {base base2 : Nat} {e e2 : TypeId} {size size2 : Nat} {v v2 : Value} {n n2 : Nat} {xs xs2 : List Value} (h : w.ownsRow base e size v n xs) (h2 : w.ownsRow base2 e2 size2 v2 n2 xs2) (he : e ≠ e2) (hg : w.grownBy w' v.ownBlock) : w'.ownsRow base2 e2 size2 v2 n2 xs2 := by
  refine h2.kept hg ?_
  cases hv : v2.ownBlock with
  | none => exact .inl rfl
  | some b => exact .inr (typed_ne h (owns_typed h2 b hv) he)

theorem block_kept {w w' : World} {base : Nat} {e e0 : TypeId} {size : Nat} {v : Value} {n : Nat} {xs : List Value} {b : Nat} {cur : Array Value} (h : w.ownsRow base e size v n xs) (hb : w.heap[b]? = some (.cells cur e0 (0, 0))) (he : e ≠ e0) (hg : w.grownBy w' v.ownBlock) : w'.heap[b]? = some (.cells cur e0 (0, 0)) := by
  rw [hg.block b (Array.getElem?_eq_some_iff.1 hb).1 (typed_ne h ⟨cur, hb⟩ he)]
  exact hb

theorem block_alloc {w : World} {b : Nat} {o : Obj} (o2 : Obj) (hb : w.heap[b]? = some o) : (w.alloc o2).heap[b]? = some o := by
  rw [Below.heap_alloc _ _ _ (Array.getElem?_eq_some_iff.1 hb).1]
  exact hb

theorem box_cells {w : World} {b : Nat} {x y z : Value} {e : TypeId} (h : w.heap[b]? = some (.cells #[x, y, z] e (0, 0))) : w.cell? ⟨b, 0, none⟩ = some x ∧ w.cell? ⟨b, 1, none⟩ = some y ∧ w.cell? ⟨b, 2, none⟩ = some z := by
  refine ⟨?_, ?_, ?_⟩
  · rw [cell_of_row w b 0 _ e (0, 0) h]; rfl
  · rw [cell_of_row w b 1 _ e (0, 0) h]; rfl
  · rw [cell_of_row w b 2 _ e (0, 0) h]; rfl

theorem owns_mono {w : World} {base base' : Nat} {e : TypeId} {size : Nat} {v : Value} {n : Nat} {xs : List Value} (h : w.ownsRow base e size v n xs) (hb : base' ≤ base) : w.ownsRow base' e size v n xs := by
  obtain ⟨h2, h3⟩ := h
  refine ⟨h2, ?_⟩
  rcases h3 with h3 | ⟨g, cap, cur, r1, r2, r3⟩
  · exact .inl h3
  · exact .inr ⟨g, cap, cur, r1, Nat.le_trans hb r2, r3⟩

theorem OwnK.alloc {k : IntKind} {e : TypeId} {w : World} {base : Nat} {v : Value} {n : Nat} {zs : List Int} (h : OwnK k e w base v n zs) (o : Obj) : OwnK k e (w.alloc o) base v n zs := ⟨h.1, h.2.alloc o⟩
end Go.Proofs.Qxb6617398a
