/-
  More laws on rows that the call makes: make, copy, one store after another.
-/
import Derived.Test.Qxb6617398aBase
import Derived.Laws.CopyOwn
namespace Go.Proofs.Qxb6617398a
open Go.RowKit

/-- 'make([]T, n)', T of one cell. -/
theorem wpList_mk {P : Program} (w : World) {ops : Array Oper} {rest : List Oper} {o : Oper} {a : Act} {Q : Exit → Act → World → Prop}
    (hg : o.guard = none) (l c : Operand) (t : TypeId) (hop : o.op = Op.makeSlice t l c) {e : TypeId} {z : Value} {size bytes : Nat} (ht : P.underlying t = some (.slice e))
    (hinfo : (P.info? e).map (fun i => (i.zero, i.size, i.bytes)) = some (some z, size, bytes)) (L : Int) (n : Nat) (hl : a.eval l = .int .i64 L) (hc : a.eval c = .int .i64 L) (hL : L = (n : Int)) (hn : n ≤ 16777216) (hby : bytes ≤ 65536)
    (h : ∀ w', w'.ownsRow w.heap.size e size (.slice (some ⟨w.heap.size, 0, none⟩) n n) n (madeCells z.cells (n * size)).toList → Below w.heap.size w w' → wpList P ops Q rest (a.put o.dst (.slice (some ⟨w.heap.size, 0, none⟩) n n)) w') :
    wpList P ops Q (o :: rest) a w := by
  obtain ⟨i, hi, hz, hz1, hz2⟩ := info_parts hinfo
  refine wpList_make_full w hg l c t hop w.heap.size e i z size ht hi hz hz1 .i64 .i64 L L n hl hc hL hL ?_ ?_ (Nat.le_refl _) ?_
  · rw [hz2]
    have := Nat.mul_le_mul hby hn
    omega
  · unfold maxLen; omega
  · intro w' h1 h2
    exact h w' h1 ((Below.refl _ _).grown h2 (Nat.le_refl _) (fun k hk => by cases hk))

/-- 'make([]T, 0, n)'. -/
theorem wpList_mk0 {P : Program} (w : World) {ops : Array Oper} {rest : List Oper} {o : Oper} {a : Act} {Q : Exit → Act → World → Prop}
    (hg : o.guard = none) (l c : Operand) (t : TypeId) (hop : o.op = Op.makeSlice t l c) {e : TypeId} {z : Value} {size bytes : Nat} (ht : P.underlying t = some (.slice e))
    (hinfo : (P.info? e).map (fun i => (i.zero, i.size, i.bytes)) = some (some z, size, bytes)) (L : Int) (n : Nat) (hl : a.eval l = .int .i64 0) (hc : a.eval c = .int .i64 L) (hL : L = (n : Int)) (hn : n ≤ 16777216) (hby : bytes ≤ 65536)
    (h : ∀ w', w'.ownsRow w.heap.size e size (.slice (some ⟨w.heap.size, 0, none⟩) 0 n) 0 [] → Below w.heap.size w w' → wpList P ops Q rest (a.put o.dst (.slice (some ⟨w.heap.size, 0, none⟩) 0 n)) w') :
    wpList P ops Q (o :: rest) a w := by
  obtain ⟨i, hi, hz, hz1, hz2⟩ := info_parts hinfo
  refine wpList_make_own w hg l c t hop w.heap.size e i z size ht hi hz hz1 .i64 .i64 L n hl hc hL ?_ ?_ (Nat.le_refl _) ?_
  · rw [hz2]
    have := Nat.mul_le_mul hby hn
    omega
  · unfold maxLen; omega
  · intro w' h1 h2
    exact h w' h1 ((Below.refl _ _).grown h2 (Nat.le_refl _) (fun k hk => by cases hk))

/-- 'copy(d, s)', d a row of the call's own as long as s. -/
theorem wpList_cp {P : Program} {w : World} {ops : Array Oper} {rest : List Oper} {o : Oper} {a : Act} {Q : Exit → Act → World → Prop} (hgd : o.guard = none) (d s : Operand) (dT sT : TypeId)
    (ho : o.op = .call { callee := .builtin .copy, args := #[d, s], argTypes := #[dT, sT] }) {e : TypeId} (hu : P.underlying dT = some (.slice e)) (hsz : (P.info? e).map (·.size) = some 1)
    {k : IntKind} {bs : List Int} {base g : Nat} {xs : List Value} {sv : Value} (hd : a.eval d = .slice (some ⟨g, 0, none⟩) bs.length bs.length) (hs : a.eval s = sv) (hsv : IsInts k w sv bs)
    (hown : w.ownsRow base e 1 (.slice (some ⟨g, 0, none⟩) bs.length bs.length) bs.length xs)
    (h : ∀ w', w'.ownsRow base e 1 (.slice (some ⟨g, 0, none⟩) bs.length bs.length) bs.length (bs.map (Value.int k)) → Below base w w' → wpList P ops Q rest (a.put o.dst (goInt bs.length)) w') :
    wpList P ops Q (o :: rest) a w := by
  obtain ⟨sa, scap, rfl, s1, s2, s3⟩ := hsv
  obtain ⟨hxl, hr⟩ := hown
  rcases hr with ⟨h0, _⟩ | ⟨g', cap, cur, hv, hb, hg, hn, hm, hcs, htk⟩
  · cases h0
  simp only [Value.slice.injEq, Option.some.injEq, Addr.mk.injEq, true_and, and_true] at hv
  obtain ⟨rfl, rfl⟩ := hv
  have hcl : cur.toList.length = bs.length := by simp [hcs]
  refine wpList_copy_splice hgd d s dT sT ho e hu hsz (some ⟨g, 0, none⟩) sa bs.length bs.length bs.length scap hd hs g 0 cur.toList e (by simpa using hg) (bs.map (Value.int k)) (by simp) ?_ (by simp [hcs]) (ints_oneCell k bs) base w (Below.refl _ _) hb ?_
  · intro hp
    refine ⟨rfl, ?_⟩
    obtain ⟨b, off, rfl, _⟩ := s3 0 (by simpa using hp)
    refine ⟨⟨b, off, none⟩, rfl, fun j v hj => ?_⟩
    have hjl : j < bs.length := by
      have := (List.getElem?_eq_some_iff.1 hj).1
      simpa using this
    obtain ⟨b', off', hab, hc⟩ := s3 j hjl
    simp only [Option.some.injEq, Addr.mk.injEq, and_true] at hab
    obtain ⟨rfl, rfl⟩ := hab
    rw [getD_map _ _ 0 _ hjl] at hj
    rw [Addr.add_lit, hc]
    exact hj
  · intro w' hw' hbel
    have hl : (bs.map (Value.int k)).length = bs.length := by simp
    rw [hl]
    refine h w' ⟨by simp, .inr ⟨g, bs.length, (bs.map (Value.int k)).toArray, rfl, hb, ?_, Nat.le_refl _, hm, by simp, by rw [Nat.mul_one, List.take_of_length_le (by simp)]⟩⟩ hbel
    have := hw'.out
    rw [this]
    congr 2
    unfold splice
    simp [hcl]

/-- Block g is a row of n cells of type e, of which the first i hold the numbers of f. -/
def Part (k : IntKind) (w : World) (g : Nat) (e : TypeId) (n : Nat) (f : List Int) (i : Nat) : Prop :=
  ∃ cur : Array Value, w.heap[g]? = some (.cells cur e (0, 0)) ∧ cur.size = n ∧ ∀ j, j < i → cur[j]? = some (.int k (f.getD j 0))

theorem Part.of_owns {k : IntKind} {w : World} {base g : Nat} {e : TypeId} {n : Nat} {xs : List Value} {f : List Int} (h : w.ownsRow base e 1 (.slice (some ⟨g, 0, none⟩) n n) n xs) : Part k w g e n f 0 := by
  rcases h.2 with ⟨h0, _⟩ | ⟨g', cap, cur, hv, hb, hg, hn, hm, hcs, htk⟩
  · cases h0
  simp only [Value.slice.injEq, Option.some.injEq, Addr.mk.injEq, true_and, and_true] at hv
  obtain ⟨rfl, rfl⟩ := hv
  exact ⟨cur, hg, by simpa using hcs, fun j hj => by omega⟩

theorem Part.cell {k : IntKind} {w : World} {g : Nat} {e : TypeId} {n : Nat} {f : List Int} {i : Nat} (h : Part k w g e n f i) {j : Nat} (hj : j < n) : (∃ u, w.cell? ⟨g, j, none⟩ = some u) ∧ w.frozen? ⟨g, j, none⟩ = false := by
  obtain ⟨cur, hg, hs, _⟩ := h
  have hj' : j < cur.size := by omega
  refine ⟨⟨cur[j], ?_⟩, ?_⟩
  · rw [cell_of_row w g j cur e (0, 0) hg]
    simp [hj']
  · simp [World.frozen?, hg]

theorem Part.set {k : IntKind} {w : World} {g : Nat} {e : TypeId} {n : Nat} {f : List Int} {i : Nat} (h : Part k w g e n f i) (hi : i < n) : Part k (w.setCell ⟨g, i, none⟩ (.int k (f.getD i 0))) g e n f (i + 1) := by
  obtain ⟨cur, hg, hs, hf⟩ := h
  refine ⟨cur.setIfInBounds i (.int k (f.getD i 0)), ?_, by simpa using hs, fun j hj => ?_⟩
  · simp only [World.setCell, Array.getElem?_modify, if_true, hg]
    rfl
  · by_cases hji : j = i
    · subst hji
      simp [show j < cur.size by omega]
    · have := hf j (by omega)
      rw [Array.getElem?_setIfInBounds_ne (by omega)]
      exact this

theorem Part.ints {k : IntKind} {w : World} {g : Nat} {e : TypeId} {f : List Int} (h : Part k w g e f.length f f.length) (hm : f.length ≤ maxLen) : IsInts k w (.slice (some ⟨g, 0, none⟩) f.length f.length) f := by
  obtain ⟨cur, hg, hs, hf⟩ := h
  refine ⟨_, _, rfl, Nat.le_refl _, hm, fun j hj => ⟨g, 0, rfl, ?_⟩⟩
  rw [Nat.zero_add, cell_of_row w g j cur e (0, 0) hg]
  exact hf j hj

/-- The slice value v, of n numbers zs of kind k (their type: e), is a row of the call's own from block base on. -/
def OwnK (k : IntKind) (e : TypeId) (w : World) (base : Nat) (v : Value) (n : Nat) (zs : List Int) : Prop := zs.length = n ∧ w.ownsRow base e 1 v n (zs.map (Value.int k))

theorem OwnK.ints {k : IntKind} {e : TypeId} {w : World} {base : Nat} {v : Value} {n : Nat} {zs : List Int} (h : OwnK k e w base v n zs) : IsInts k w v zs := by
  obtain ⟨rfl, h⟩ := h
  exact ints_of_owns h

/-- 'append(v, x)' of a number. -/
theorem wpList_appK {P : Program} (w : World) {ops : Array Oper} {rest : List Oper} {o : Oper} {a : Act} {Q : Exit → Act → World → Prop} (hgd : o.guard = none) (s x : Operand) (t : TypeId)
    (ho : o.op = .call { callee := .builtin .append, args := #[s, x], argTypes := #[t, t] })
    {base : Nat} {k : IntKind} {e : TypeId} {bytes : Nat} (ht : P.underlying t = some (.slice e)) (hinfo : (P.info? e).map (fun i => (i.zero, i.size, i.bytes)) = some (some (.int k 0), 1, bytes))
    {v : Value} {n : Nat} {zs : List Int} (hs : a.eval s = v) (hown : OwnK k e w base v n zs)
    (y : Int) (e2 : TypeId) (hx : a.eval x = .slice (some ⟨w.heap.size, 0, none⟩) 1 1)
    (hn : n < 1048576) (hby : bytes ≤ 65536) (hbase : base ≤ w.heap.size)
    (h : ∀ g cap w', OwnK k e w' base (.slice (some ⟨g, 0, none⟩) (n + 1) cap) (n + 1) (zs ++ [y]) → Below base w w' → w.grownBy w' v.ownBlock → wpList P ops Q rest (a.put o.dst (.slice (some ⟨g, 0, none⟩) (n + 1) cap)) w') :
    wpList P ops Q (o :: rest) a (w.alloc (.cells #[.int k y] e2)) := by
  obtain ⟨hl, hown⟩ := hown
  refine wpList_app w hgd s x t ho ht hinfo rfl (by decide) hs hown [.int k y] e2 hx rfl (by intro u hu; simp at hu; subst hu; rfl) hn hby hbase ?_
  intro g cap w' h1 h2 h3
  exact h g cap w' ⟨by simp [hl], by simpa using h1⟩ h2 h3

theorem take_snocI (zs : List Int) (k : Nat) (h : k < zs.length) : zs.take (k + 1) = zs.take k ++ [zs.getD k 0] := by
  rw [List.take_succ_eq_append_getElem h]
  simp [List.getD, h]

theorem getD_append_right (A B : List Int) (i : Nat) : (A ++ B).getD (A.length + i) 0 = B.getD i 0 := by
  rw [List.getD, List.getD, List.getElem?_append_right (by omega), show A.length + i - A.length = i by omega]
theorem getD_append_left (A B : List Int) (i : Nat) (h : i < A.length) : (A ++ B).getD i 0 = A.getD i 0 := by
  rw [List.getD, List.getD, List.getElem?_append_left h]
end Go.Proofs.Qxb6617398a
