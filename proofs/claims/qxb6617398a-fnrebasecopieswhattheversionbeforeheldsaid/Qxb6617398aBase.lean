/-
  Shared laws for the seat b6617398a: slices in memory, a slice that the call makes and appends to. No function of the program is named here.
-/
import Derived.WalkKit
namespace Go.Proofs.Qxb6617398a
open Go.RowKit

/-- The slice value v holds the numbers zs of kind k. -/
def IsInts (k : IntKind) (w : World) (v : Value) (zs : List Int) : Prop :=
  ∃ a cap, v = .slice a zs.length cap ∧ zs.length ≤ cap ∧ cap ≤ maxLen ∧
    ∀ j, j < zs.length → ∃ b off, a = some ⟨b, off, none⟩ ∧ w.cell? ⟨b, off + j, none⟩ = some (.int k (zs.getD j 0))

theorem IsInts.below {k : IntKind} {w w' : World} {v : Value} {zs : List Int} (h : IsInts k w v zs) (hb : Below w.heap.size w w') : IsInts k w' v zs := by
  obtain ⟨a, cap, h1, h2, h3, h4⟩ := h
  refine ⟨a, cap, h1, h2, h3, fun j hj => ?_⟩
  obtain ⟨b, off, g1, g2⟩ := h4 j hj
  exact ⟨b, off, g1, by rw [hb.cell (p := ⟨b, _, none⟩) (World.block_lt_of_cell? _ _ g2)]; exact g2⟩

theorem IsInts.cell {k : IntKind} {w : World} {a : Option Addr} {n cap : Nat} {zs : List Int} (h : IsInts k w (.slice a n cap) zs) {j : Nat} (hj : j < zs.length) :
    ∃ b off, a = some ⟨b, off, none⟩ ∧ w.cell? ⟨b, off + j, none⟩ = some (.int k (zs.getD j 0)) := by
  obtain ⟨a', cap', h1, h2, h3, h4⟩ := h
  simp only [Value.slice.injEq] at h1
  obtain ⟨rfl, _, _⟩ := h1
  exact h4 j hj

theorem getD_map {α β : Type} (f : α → β) (l : List α) (d : α) (i : Nat) (h : i < l.length) : (l.map f)[i]? = some (f (l.getD i d)) := by
  simp [List.getD, h]

/-- An owned row of numbers. -/
theorem ints_of_owns {k : IntKind} {w : World} {base : Nat} {e : TypeId} {v : Value} {zs : List Int} (h : w.ownsRow base e 1 v zs.length (zs.map (Value.int k))) : IsInts k w v zs := by
  obtain ⟨h1, h2⟩ := h
  rcases h2 with ⟨rfl, h0⟩ | ⟨g, cap, cur, rfl, _, hg, hn, hm, hs, ht⟩
  · have : zs = [] := List.eq_nil_of_length_eq_zero h0
    subst this
    exact ⟨none, 0, rfl, Nat.le_refl _, Nat.zero_le _, fun j hj => absurd hj (by simp)⟩
  · refine ⟨some ⟨g, 0, none⟩, cap, rfl, hn, hm, fun j hj => ⟨g, 0, rfl, ?_⟩⟩
    have := cell_of_row w g (0 + j) cur e (0, 0) hg
    rw [this]
    have h3 : (zs.map (Value.int k))[j]? = some (.int k (zs.getD j 0)) := getD_map _ _ _ _ hj
    rw [← ht, Nat.mul_one, List.getElem?_take, if_pos hj] at h3
    simpa using h3

/-- 'append(v, x)', v a row of the call's own, x laid just before in a block of its own. -/
theorem wpList_app {P : Program} (w : World) {ops : Array Oper} {rest : List Oper} {o : Oper} {a : Act} {Q : Exit → Act → World → Prop} (hgd : o.guard = none) (s x : Operand) (t : TypeId)
    (ho : o.op = .call { callee := .builtin .append, args := #[s, x], argTypes := #[t, t] })
    {base : Nat} {e : TypeId} {z : Value} {size bytes : Nat} (ht : P.underlying t = some (.slice e)) (hinfo : (P.info? e).map (fun i => (i.zero, i.size, i.bytes)) = some (some z, size, bytes))
    (hzs : z.cells.size = size) (hsz : 0 < size)
    {v : Value} {n : Nat} {xs : List Value} (hs : a.eval s = v) (hown : w.ownsRow base e size v n xs)
    (news : List Value) (e2 : TypeId) (hx : a.eval x = .slice (some ⟨w.heap.size, 0, none⟩) 1 1) (hl : news.length = size) (h1 : ∀ u ∈ news, u.oneCell' = true)
    (hn : n < 1048576) (hby : bytes ≤ 65536) (hbase : base ≤ w.heap.size)
    (h : ∀ g cap w', w'.ownsRow base e size (.slice (some ⟨g, 0, none⟩) (n + 1) cap) (n + 1) (xs ++ news) → Below base w w' → w.grownBy w' v.ownBlock → wpList P ops Q rest (a.put o.dst (.slice (some ⟨g, 0, none⟩) (n + 1) cap)) w') :
    wpList P ops Q (o :: rest) a (w.alloc (.cells news.toArray e2)) := by
  obtain ⟨i, hi, hz, hz1, hz2⟩ := info_parts hinfo
  refine wpList_append_own _ hgd s x t ho base e i z size bytes ht hi hz hz1 hz2 hzs hsz v n xs hs (hown.alloc _) ⟨w.heap.size, 0, none⟩ 1 1 news hx (by simpa using hl) ?_ h1 ?_ ?_ ?_ ?_
  · intro j u hu
    rw [Addr.add_lit]
    rw [Nat.zero_add, World.cell?_alloc_new]
    simpa using hu
  · unfold maxLen; omega
  · have := Nat.mul_le_mul (show n + 1 ≤ 1048576 by omega) hby
    omega
  · simp; omega
  · intro v' w' hown' hgrow _
    have hlt := hown.lt
    have g2 : w.grownBy w' v.ownBlock := by
      refine ⟨hgrow.os, hgrow.tape, hgrow.output, Nat.le_trans (by simp) hgrow.size, fun k hk hne => ?_⟩
      rw [hgrow.block k (by simp; omega) hne]
      exact Below.heap_alloc _ _ _ hk
    have hb : Below base w w' := (Below.refl base w).grown g2 hbase (fun k hk => (hlt k hk).1)
    rcases hown'.2 with ⟨_, h0⟩ | ⟨g, cap, cur, rfl, _⟩
    · omega
    · exact h g cap w' hown' hb g2

end Go.Proofs.Qxb6617398a
