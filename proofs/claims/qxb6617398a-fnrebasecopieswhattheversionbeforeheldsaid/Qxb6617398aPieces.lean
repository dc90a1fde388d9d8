/-
  Pieces and runs in memory: a struct of two ints and a byte slice, three cells. No function of the program is named here.
-/
import Derived.Test.Qxb6617398aRowLaws
namespace Go.Proofs.Qxb6617398a
open Go.RowKit

/-- A piece (a run) as data: its offset, its length, the value of its literal slice, the literal's bytes ('none': nil). -/
structure Pc where
  off : Int
  n : Int
  lv : Value
  lit : Option (List Int)

/-- A piece of nothing. -/
def Pc.nil : Pc := ⟨0, 0, .slice none 0 0, none⟩

/-- The three cells of a piece. -/
def Pc.cells (p : Pc) : List Value := [.int .i64 p.off, .int .i64 p.n, p.lv]

/-- The slice value v reads as the literal l. -/
def IsLit (w : World) (v : Value) : Option (List Int) → Prop
  | none => v = .slice none 0 0
  | some bs => IsInts .u8 w v bs ∧ (∃ a c, v = .slice (some a) bs.length c) ∧ ∀ b ∈ bs, 0 ≤ b ∧ b ≤ 255

theorem IsLit.below {w w' : World} {v : Value} {l : Option (List Int)} (h : IsLit w v l) (hb : Below w.heap.size w w') : IsLit w' v l := by
  cases l with
  | none => exact h
  | some bs => exact ⟨IsInts.below h.1 hb, h.2⟩

/-- The shape of a literal's value. -/
theorem IsLit.shape {w : World} {v : Value} {l : Option (List Int)} (h : IsLit w v l) : ∃ a c, v = .slice a (l.getD []).length c ∧ a.isNone = l.isNone ∧ c ≤ maxLen ∧ (l.getD []).length ≤ c := by
  cases l with
  | none => exact ⟨none, 0, h, rfl, Nat.zero_le _, Nat.le_refl _⟩
  | some bs =>
    obtain ⟨⟨a', c', h1, h2, h3, _⟩, ⟨a, c, hv⟩, _⟩ := h
    rw [hv] at h1
    simp only [Value.slice.injEq, true_and] at h1
    obtain ⟨_, rfl⟩ := h1
    exact ⟨some a, c, hv, rfl, h3, h2⟩

theorem IsLit.ints {w : World} {v : Value} {l : Option (List Int)} (h : IsLit w v l) : IsInts .u8 w v (l.getD []) := by
  cases l with
  | none =>
    have hv : v = .slice none 0 0 := h
    subst hv
    exact ⟨none, 0, rfl, Nat.le_refl _, Nat.zero_le _, fun j hj => absurd hj (by simp)⟩
  | some bs => exact h.1

theorem IsLit.bytes {w : World} {v : Value} {l : Option (List Int)} (h : IsLit w v l) (j : Nat) : 0 ≤ (l.getD []).getD j 0 ∧ (l.getD []).getD j 0 ≤ 255 := by
  cases l with
  | none => simp
  | some bs =>
    have hb := h.2.2
    by_cases hj : j < bs.length
    · have := hb (bs.getD j 0) (by simp [List.getD, hj])
      simpa using this
    · simp [List.getD, hj]

/-- Each literal of the list reads in w as said. -/
def Lits (w : World) (ps : List Pc) : Prop := ∀ p ∈ ps, IsLit w p.lv p.lit

theorem Lits.below {w w' : World} {ps : List Pc} (h : Lits w ps) (hb : Below w.heap.size w w') : Lits w' ps := fun p hp => (h p hp).below hb

theorem Lits.getD {w : World} {ps : List Pc} (h : Lits w ps) {j : Nat} (hj : j < ps.length) : IsLit w (ps.getD j Pc.nil).lv (ps.getD j Pc.nil).lit :=
  h _ (by simp [List.getD, hj])

/-- The slice value v holds the pieces ps. -/
def IsPcs (w : World) (v : Value) (ps : List Pc) : Prop :=
  ∃ a cap, v = .slice a ps.length cap ∧ ps.length ≤ cap ∧ cap ≤ maxLen ∧
    ∀ j, j < ps.length → ∃ b off, a = some ⟨b, off, none⟩ ∧ w.cell? ⟨b, off + j * 3, none⟩ = some (.int .i64 (ps.getD j Pc.nil).off) ∧
      w.cell? ⟨b, off + j * 3 + 1, none⟩ = some (.int .i64 (ps.getD j Pc.nil).n) ∧ w.cell? ⟨b, off + j * 3 + 2, none⟩ = some (ps.getD j Pc.nil).lv

theorem IsPcs.below {w w' : World} {v : Value} {ps : List Pc} (h : IsPcs w v ps) (hb : Below w.heap.size w w') : IsPcs w' v ps := by
  obtain ⟨a, cap, h1, h2, h3, h4⟩ := h
  refine ⟨a, cap, h1, h2, h3, fun j hj => ?_⟩
  obtain ⟨b, off, g1, g2, g3, g4⟩ := h4 j hj
  refine ⟨b, off, g1, ?_, ?_, ?_⟩
  · rw [hb.cell (p := ⟨b, _, none⟩) (World.block_lt_of_cell? _ _ g2)]; exact g2
  · rw [hb.cell (p := ⟨b, _, none⟩) (World.block_lt_of_cell? _ _ g3)]; exact g3
  · rw [hb.cell (p := ⟨b, _, none⟩) (World.block_lt_of_cell? _ _ g4)]; exact g4

theorem IsPcs.cell {w : World} {a : Option Addr} {n cap : Nat} {ps : List Pc} (h : IsPcs w (.slice a n cap) ps) {j : Nat} (hj : j < ps.length) :
    ∃ b off, a = some ⟨b, off, none⟩ ∧ w.cell? ⟨b, off + j * 3, none⟩ = some (.int .i64 (ps.getD j Pc.nil).off) ∧
      w.cell? ⟨b, off + j * 3 + 1, none⟩ = some (.int .i64 (ps.getD j Pc.nil).n) ∧ w.cell? ⟨b, off + j * 3 + 2, none⟩ = some (ps.getD j Pc.nil).lv := by
  obtain ⟨a', cap', h1, h2, h3, h4⟩ := h
  simp only [Value.slice.injEq] at h1
  obtain ⟨rfl, _, _⟩ := h1
  exact h4 j hj

/-- The cells of a list of pieces. -/
def flat (ps : List Pc) : List Value := ps.flatMap Pc.cells

theorem flat_append (ps qs : List Pc) : flat (ps ++ qs) = flat ps ++ flat qs := by simp [flat]

theorem flat_length (ps : List Pc) : (flat ps).length = ps.length * 3 := by
  induction ps with
  | nil => rfl
  | cons p ps ih =>
    have : flat (p :: ps) = p.cells ++ flat ps := rfl
    rw [this, List.length_append, ih]
    simp [Pc.cells]; omega

theorem flat_get : ∀ (ps : List Pc) (j i : Nat), j < ps.length → i < 3 → (flat ps)[j * 3 + i]? = (ps.getD j Pc.nil).cells[i]?
  | [], j, i, h, _ => by simp at h
  | p :: ps, 0, i, _, hi => by
    have : flat (p :: ps) = p.cells ++ flat ps := rfl
    rw [this, Nat.zero_mul, Nat.zero_add, List.getElem?_append_left (by simp [Pc.cells]; omega)]
    rfl
  | p :: ps, j + 1, i, h, hi => by
    have : flat (p :: ps) = p.cells ++ flat ps := rfl
    rw [this, List.getElem?_append_right (by simp [Pc.cells]; omega), show (j + 1) * 3 + i - p.cells.length = j * 3 + i by simp [Pc.cells]; omega, flat_get ps j i (by simpa using h) hi]
    rfl

/-- The slice value v, of the n pieces ps (their type: e), is a row of the call's own from block base on. -/
def OwnP (e : TypeId) (w : World) (base : Nat) (v : Value) (n : Nat) (ps : List Pc) : Prop := ps.length = n ∧ w.ownsRow base e 3 v n (flat ps)

theorem OwnP.pcs {e : TypeId} {w : World} {base : Nat} {v : Value} {n : Nat} {ps : List Pc} (h : OwnP e w base v n ps) : IsPcs w v ps := by
  obtain ⟨rfl, _, h⟩ := h
  rcases h with ⟨rfl, h0⟩ | ⟨g, cap, cur, rfl, _, hg, hn, hm, hs, ht⟩
  · have : ps = [] := List.eq_nil_of_length_eq_zero h0
    subst this
    exact ⟨none, 0, rfl, Nat.le_refl _, Nat.zero_le _, fun j hj => absurd hj (by simp)⟩
  · refine ⟨some ⟨g, 0, none⟩, cap, rfl, hn, hm, fun j hj => ⟨g, 0, rfl, ?_⟩⟩
    have key : ∀ i, i < 3 → w.cell? ⟨g, j * 3 + i, none⟩ = (ps.getD j Pc.nil).cells[i]? := by
      intro i hi
      rw [cell_of_row w g (j * 3 + i) cur e (0, 0) hg, ← flat_get ps j i hj hi, ← ht, List.getElem?_take, if_pos (by omega)]
      simp
    have k0 := key 0 (by omega)
    have k1 := key 1 (by omega)
    have k2 := key 2 (by omega)
    simp only [Pc.cells, Nat.add_zero] at k0 k1 k2
    refine ⟨by rw [Nat.zero_add]; simpa using k0, by rw [Nat.zero_add]; simpa using k1, by rw [Nat.zero_add]; simpa using k2⟩

/-- What is owned stays owned while blocks below base and new ones turn. -/
theorem OwnP.nil (e : TypeId) (w : World) (base : Nat) : OwnP e w base (.slice none 0 0) 0 [] := ⟨rfl, World.ownsRow_nil _ _ _ _⟩

/-- 'append(v, p)' of a piece. -/
theorem wpList_appP {P : Program} (w : World) {ops : Array Oper} {rest : List Oper} {o : Oper} {a : Act} {Q : Exit → Act → World → Prop} (hgd : o.guard = none) (s x : Operand) (t : TypeId)
    (ho : o.op = .call { callee := .builtin .append, args := #[s, x], argTypes := #[t, t] })
    {base : Nat} {e : TypeId} {bytes : Nat} {z : Value} (ht : P.underlying t = some (.slice e)) (hinfo : (P.info? e).map (fun i => (i.zero, i.size, i.bytes)) = some (some z, 3, bytes)) (hz : z.cells.size = 3)
    {v : Value} {n : Nat} {ps : List Pc} (hs : a.eval s = v) (hown : OwnP e w base v n ps)
    (p : Pc) (e2 : TypeId) {B : Nat} (hx : a.eval x = .slice (some ⟨B, 0, none⟩) 1 1) (hB : B = w.heap.size) (h1 : p.lv.oneCell' = true)
    (hn : n < 1048576) (hby : bytes ≤ 65536) (hbase : base ≤ w.heap.size)
    (h : ∀ g cap w', OwnP e w' base (.slice (some ⟨g, 0, none⟩) (n + 1) cap) (n + 1) (ps ++ [p]) → Below base w w' → w.grownBy w' v.ownBlock → wpList P ops Q rest (a.put o.dst (.slice (some ⟨g, 0, none⟩) (n + 1) cap)) w') :
    wpList P ops Q (o :: rest) a (w.alloc (.cells #[.int .i64 p.off, .int .i64 p.n, p.lv] e2)) := by
  obtain ⟨hl, hown⟩ := hown
  subst hB
  refine wpList_app w hgd s x t ho ht hinfo hz (by decide) hs hown p.cells e2 hx rfl ?_ hn hby hbase ?_
  · intro u hu
    simp only [Pc.cells, List.mem_cons, List.not_mem_nil, or_false] at hu
    rcases hu with rfl | rfl | rfl
    · rfl
    · rfl
    · exact h1
  · intro g cap w' g1 g2 g3
    refine h g cap w' ⟨by simp [hl], ?_⟩ g2 g3
    rw [flat_append]
    simpa [flat] using g1

theorem IsLit.one {w : World} {v : Value} {l : Option (List Int)} (h : IsLit w v l) : v.oneCell' = true := by
  obtain ⟨a, c, rfl, _⟩ := h.shape
  rfl
end Go.Proofs.Qxb6617398a
