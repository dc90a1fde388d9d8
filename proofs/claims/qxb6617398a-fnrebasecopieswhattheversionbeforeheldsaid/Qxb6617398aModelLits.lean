/-
  The literals of the runs that the model lays, in memory: what keeps them.
-/
import Derived.Test.Qxb6617398aModelRows
namespace Go.Proofs.Qxb6617398a
open Go.RowKit

/-- The literal of q stands in w: below B0, or in a block of bytes below base. -/
def LitM (w : World) (B0 base : Nat) (q : Pc) : Prop :=
  IsLit w q.lv q.lit ∧ ∀ ad n c, q.lv = .slice (some ad) n c → 0 < n → ad.block < B0 ∨ (ad.block < base ∧ Typed w ad.block 5)

theorem LitM.keep {w w' : World} {B0 base : Nat} {q : Pc} (h : LitM w B0 base q) (hk : ∀ b, b < w.heap.size → (b < B0 ∨ b < base ∧ Typed w b 5) → w'.heap[b]? = w.heap[b]?) : LitM w' B0 base q := by
  obtain ⟨h1, h2⟩ := h
  have same : ∀ ad n c, q.lv = .slice (some ad) n c → 0 < n → ad.block < w.heap.size → w'.heap[ad.block]? = w.heap[ad.block]? := fun ad n c hq hn hb => hk _ hb (h2 ad n c hq hn)
  refine ⟨?_, fun ad n c hq hn => ?_⟩
  · cases hl : q.lit with
    | none => rw [hl] at h1; exact h1
    | some bs =>
      rw [hl] at h1
      obtain ⟨⟨a, c, g1, g2, g3, g4⟩, hs, hb⟩ := h1
      refine ⟨⟨a, c, g1, g2, g3, fun j hj => ?_⟩, hs, hb⟩
      obtain ⟨b, off, rfl, hc⟩ := g4 j hj
      refine ⟨b, off, rfl, ?_⟩
      have hlt : b < w.heap.size := World.block_lt_of_cell? w ⟨b, off + j, none⟩ hc
      rw [World.cell?_of_block (a := ⟨b, off + j, none⟩) (same ⟨b, off, none⟩ _ _ g1 (by omega) hlt)]
      exact hc
  · rcases h2 ad n c hq hn with h3 | ⟨h3, cur, h4⟩
    · exact .inl h3
    · refine .inr ⟨h3, cur, ?_⟩
      rw [hk _ (Array.getElem?_eq_some_iff.1 h4).1 (.inr ⟨h3, cur, h4⟩)]
      exact h4

theorem LitM.mono {w : World} {B0 base base' : Nat} {q : Pc} (h : LitM w B0 base q) (hb : base ≤ base') : LitM w B0 base' q :=
  ⟨h.1, fun ad n c hq hn => (h.2 ad n c hq hn).elim .inl fun h3 => .inr ⟨Nat.lt_of_lt_of_le h3.1 hb, h3.2⟩⟩

theorem LitM.below {w w' : World} {B0 base : Nat} {q : Pc} (h : LitM w B0 base q) (hb : Below base w w') (h0 : B0 ≤ base) : LitM w' B0 base q :=
  h.keep fun b _ h2 => hb.block b (by rcases h2 with h2 | h2 <;> omega)

/-- The row of the runs turns. -/
theorem LitM.grown {w w' : World} {B0 base : Nat} {q : Pc} {v : Value} {n : Nat} {xs : List Value} (h : LitM w B0 base q) (hown : w.ownsRow B0 40 3 v n xs) (hg : w.grownBy w' v.ownBlock) : LitM w' B0 base q :=
  h.keep fun b hb h2 => hg.block b hb (by
    rcases h2 with h2 | h2
    · intro hv
      have := (hown.lt b hv.symm).1
      omega
    · exact typed_ne hown h2.2 (by decide))

/-- The row of the last literal turns. -/
theorem LitM.grown5 {w w' : World} {B0 base : Nat} {q : Pc} {v : Value} {n : Nat} {xs : List Value} (h : LitM w B0 base q) (hown : w.ownsRow base 5 1 v n xs) (hg : w.grownBy w' v.ownBlock) (h0 : B0 ≤ base) : LitM w' B0 base q :=
  h.keep fun b hb h2 => hg.block b hb (by
    intro hv
    have := (hown.lt b hv.symm).1
    rcases h2 with h2 | h2 <;> omega)

/-- A literal that came in. -/
theorem LitM.came {wb w : World} {q : Pc} (h : IsLit wb q.lv q.lit) (hb : Below wb.heap.size wb w) (base : Nat) : LitM w wb.heap.size base q := by
  refine ⟨h.below hb, fun ad n c hq hn => .inl ?_⟩
  cases hl : q.lit with
  | none =>
    rw [hl] at h
    have h2 : q.lv = .slice none 0 0 := h
    rw [hq] at h2
    simp at h2
  | some bs =>
    rw [hl] at h
    obtain ⟨⟨a, c', g1, g2, g3, g4⟩, hs, _⟩ := h
    rw [hq] at g1
    simp only [Value.slice.injEq] at g1
    obtain ⟨rfl, rfl, rfl⟩ := g1
    obtain ⟨b, off, hab, hc⟩ := g4 0 hn
    simp only [Option.some.injEq] at hab
    subst hab
    exact World.block_lt_of_cell? wb ⟨b, off + 0, none⟩ hc

/-- The last literal, which the model is filling: a row of its own, the others below it. -/
def CurL (w : World) (B0 L : Nat) (qs : List Pc) (l : Pc) : Prop :=
  ∃ bs base c g, l.lit = some bs ∧ l.n = (bs.length : Int) ∧ bs.length ≤ L ∧ (∀ x ∈ bs, 0 ≤ x ∧ x ≤ 255) ∧ l.lv = .slice (some ⟨g, 0, none⟩) bs.length c ∧ w.ownsRow base 5 1 l.lv bs.length (bs.map (Value.int .u8)) ∧ B0 ≤ base ∧ base ≤ w.heap.size ∧ ∀ q ∈ qs, LitM w B0 base q

theorem litM_of_owns {w : World} {B0 base c g : Nat} {l : Pc} {bs : List Int} (h1 : l.lit = some bs) (h2 : ∀ x ∈ bs, 0 ≤ x ∧ x ≤ 255) (h3 : l.lv = .slice (some ⟨g, 0, none⟩) bs.length c) (h4 : w.ownsRow base 5 1 l.lv bs.length (bs.map (Value.int .u8))) : LitM w B0 w.heap.size l := by
  refine ⟨?_, fun ad n c' hq hn => .inr ?_⟩
  · rw [h1]
    exact ⟨ints_of_owns h4, ⟨_, _, h3⟩, h2⟩
  · rw [h3] at hq
    simp only [Value.slice.injEq, Option.some.injEq] at hq
    obtain ⟨rfl, _, _⟩ := hq
    have hb : l.lv.ownBlock = some g := by rw [h3]; simp [Value.ownBlock]
    exact ⟨(h4.lt g hb).2, owns_typed h4 g hb⟩

theorem CurL.grown {w w' : World} {B0 L : Nat} {qs : List Pc} {l : Pc} {v : Value} {n : Nat} {xs : List Value} (h : CurL w B0 L qs l) (hown : w.ownsRow B0 40 3 v n xs) (hg : w.grownBy w' v.ownBlock) : CurL w' B0 L qs l := by
  obtain ⟨bs, base, c, g, r1, r0, rL, r2, r3, r4, r5, r6, r7⟩ := h
  exact ⟨bs, base, c, g, r1, r0, rL, r2, r3, owns_kept hown r4 (by decide) hg, r5, Nat.le_trans r6 hg.size, fun q hq => (r7 q hq).grown hown hg⟩

theorem CurL.alloc {w : World} {B0 L : Nat} {qs : List Pc} {l : Pc} (h : CurL w B0 L qs l) (o : Obj) : CurL (w.alloc o) B0 L qs l := by
  obtain ⟨bs, base, c, g, r1, r0, rL, r2, r3, r4, r5, r6, r7⟩ := h
  refine ⟨bs, base, c, g, r1, r0, rL, r2, r3, r4.alloc o, r5, by simp; omega, fun q hq => (r7 q hq).keep fun b hb _ => Below.heap_alloc _ _ _ hb⟩

theorem CurL.drew {w : World} {B0 L : Nat} {qs : List Pc} {l : Pc} (h : CurL w B0 L qs l) (k : Nat) : CurL (w.drewN k) B0 L qs l := by
  obtain ⟨bs, base, c, g, r1, r0, rL, r2, r3, r4, r5, r6, r7⟩ := h
  exact ⟨bs, base, c, g, r1, r0, rL, r2, r3, r4, r5, r6, fun q hq => (r7 q hq).keep fun b hb _ => rfl⟩

theorem CurL.mono {w : World} {B0 L L' : Nat} {qs : List Pc} {l : Pc} (h : CurL w B0 L qs l) (hL : L ≤ L') : CurL w B0 L' qs l := by
  obtain ⟨bs, base, c, g, r1, r0, rL, r2⟩ := h
  exact ⟨bs, base, c, g, r1, r0, Nat.le_trans rL hL, r2⟩

/-- The numbers of a run that the model has laid. -/
def NumM (q : Pc) : Prop := 0 ≤ q.n ∧ (q.lit = none → 0 ≤ q.off ∧ q.off + q.n ≤ 2305843009213759487)

/-- What holds of the model's runs ws and its group g between two tokens; L bounds what has come. -/
structure St (w : World) (B0 : Nat) (ws : List Pc) (g : Int) (L : Nat) : Prop where
  lits : ∀ q ∈ ws, LitM w B0 w.heap.size q
  nums : ∀ q ∈ ws, NumM q
  len : ws.length ≤ L
  cur : ¬ g = -1 → ∃ qs l, ws = qs ++ [l] ∧ CurL w B0 L qs l

theorem St.alloc {w : World} {B0 : Nat} {ws : List Pc} {g : Int} {L : Nat} (h : St w B0 ws g L) (o : Obj) : St (w.alloc o) B0 ws g L :=
  ⟨fun q hq => ((h.lits q hq).keep fun b hb _ => Below.heap_alloc _ _ _ hb).mono (by simp), h.nums, h.len, fun hg => by
    obtain ⟨qs, l, h1, h2⟩ := h.cur hg
    exact ⟨qs, l, h1, h2.alloc o⟩⟩

theorem St.drew {w : World} {B0 : Nat} {ws : List Pc} {g : Int} {L : Nat} (h : St w B0 ws g L) (k : Nat) : St (w.drewN k) B0 ws g L :=
  ⟨fun q hq => ((h.lits q hq).keep fun b hb _ => rfl), h.nums, h.len, fun hg => by
    obtain ⟨qs, l, h1, h2⟩ := h.cur hg
    exact ⟨qs, l, h1, h2.drew k⟩⟩

theorem St.mono {w : World} {B0 : Nat} {ws : List Pc} {g : Int} {L L' : Nat} (h : St w B0 ws g L) (hL : L ≤ L') : St w B0 ws g L' :=
  ⟨h.lits, h.nums, Nat.le_trans h.len hL, fun hg => by
    obtain ⟨qs, l, h1, h2⟩ := h.cur hg
    exact ⟨qs, l, h1, h2.mono hL⟩⟩

/-- The literals keep while the row of the runs turns. -/
theorem lits_grown {w w' : World} {B0 : Nat} {ws : List Pc} {v : Value} {n : Nat} {xs : List Value} (h : ∀ q ∈ ws, LitM w B0 w.heap.size q) (hown : w.ownsRow B0 40 3 v n xs) (hg : w.grownBy w' v.ownBlock) : ∀ q ∈ ws, LitM w' B0 w'.heap.size q :=
  fun q hq => ((h q hq).grown hown hg).mono hg.size

/-- Storing into a block is growing by it. -/
theorem grown_set (w : World) (g i : Nat) (u : Value) : w.grownBy (w.setCell ⟨g, i, none⟩ u) (some g) :=
  ⟨rfl, rfl, rfl, by simp, fun k hk hne => by
    have : k ≠ g := fun e => hne (by rw [e])
    simp only [World.setCell]
    rw [Array.getElem?_modify, if_neg (fun e => this e.symm)]⟩

theorem grown_trans {w w' w'' : World} {row : Option Nat} (h : w.grownBy w' row) (h2 : w'.grownBy w'' row) : w.grownBy w'' row :=
  ⟨h2.os.trans h.os, h2.tape.trans h.tape, h2.output.trans h.output, Nat.le_trans h.size h2.size, fun k hk hne => (h2.block k (Nat.lt_of_lt_of_le hk h.size) hne).trans (h.block k hk hne)⟩

/-- 'append' to the row of the runs; a box of the same type stays apart. -/
theorem wpList_appW (w : World) {ops : Array Oper} {rest : List Oper} {o : Oper} {a : Act} {Q : Exit → Act → World → Prop} (hgd : o.guard = none) (s x : Operand)
    (ho : o.op = .call { callee := .builtin .append, args := #[s, x], argTypes := #[27, 27] })
    {base : Nat} {v : Value} {n : Nat} {ps : List Pc} (hs : a.eval s = v) (hown : OwnP 40 w base v n ps) (hnil : n = 0 → v = .slice none 0 0)
    (p : Pc) {B : Nat} (hx : a.eval x = .slice (some ⟨B, 0, none⟩) 1 1) (hB : B = w.heap.size) (h1 : p.lv.oneCell' = true)
    (hn : n < 1073741824) (hbase : base ≤ w.heap.size)
    (h : ∀ g cap w', OwnP 40 w' base (.slice (some ⟨g, 0, none⟩) (n + 1) cap) (n + 1) (ps ++ [p]) → Below base w w' → w.grownBy w' v.ownBlock →
      (∀ b x y z, w.heap[b]? = some (.cells #[x, y, z] 40 (0, 0)) → some b ≠ v.ownBlock → w'.heap[b]? = some (.cells #[x, y, z] 40 (0, 0)) ∧ b ≠ g) → wpList Try.prog ops Q rest (a.put o.dst (.slice (some ⟨g, 0, none⟩) (n + 1) cap)) w') :
    wpList Try.prog ops Q (o :: rest) a (w.alloc (.cells #[.int .i64 p.off, .int .i64 p.n, p.lv] 40)) := by
  by_cases h0 : n = 0
  · subst h0
    obtain rfl := hnil rfl
    have hps : ps = [] := List.eq_nil_of_length_eq_zero hown.1
    subst hps
    refine wpList_appPB w hgd s x 27 ho Try.underlying27 info40 rfl hs (OwnP.nil 40 w w.heap.size) p 40 hx hB h1 hn (by decide) (Nat.le_refl _) ?_
    intro g cap w' r1 r2 r3
    refine h g cap w' (r1.mono hbase) (r2.mono hbase) r3 ?_
    intro b x y z hb hne
    have hlt := (Array.getElem?_eq_some_iff.1 hb).1
    refine ⟨by rw [r3.block b hlt hne]; exact hb, ?_⟩
    have := (r1.2.lt g (by simp [Value.ownBlock])).1
    omega
  · refine wpList_appPB w hgd s x 27 ho Try.underlying27 info40 rfl hs hown p 40 hx hB h1 hn (by decide) hbase ?_
    intro g cap w' r1 r2 r3
    refine h g cap w' r1 r2 r3 ?_
    intro b x y z hb hne
    have hlt := (Array.getElem?_eq_some_iff.1 hb).1
    have hb' : w'.heap[b]? = some (.cells #[x, y, z] 40 (0, 0)) := by rw [r3.block b hlt hne]; exact hb
    refine ⟨hb', ?_⟩
    rintro rfl
    rcases r1.2.2 with ⟨q1, _⟩ | ⟨g', cap', cur, q1, _, q3, q4, _, q6, _⟩
    · cases q1
    · simp only [Value.slice.injEq, Option.some.injEq, Addr.mk.injEq, true_and, and_true] at q1
      obtain ⟨rfl, rfl⟩ := q1
      rw [hb'] at q3
      simp only [Option.some.injEq, Obj.cells.injEq, and_true] at q3
      subst q3
      simp at q6
      omega

/-- The cells of the last of a row. -/
theorem OwnP.lastCells {e : TypeId} {w : World} {base : Nat} {v : Value} {n : Nat} {qs : List Pc} {l : Pc} (h : OwnP e w base v n (qs ++ [l])) :
    ∃ g cap, v = .slice (some ⟨g, 0, none⟩) (qs.length + 1) cap ∧ n = qs.length + 1 ∧ base ≤ g ∧ g < w.heap.size ∧ qs.length + 1 ≤ cap ∧ cap ≤ maxLen ∧ w.cell? ⟨g, qs.length * 3, none⟩ = some (.int .i64 l.off) ∧ w.cell? ⟨g, qs.length * 3 + 1, none⟩ = some (.int .i64 l.n) ∧ w.cell? ⟨g, qs.length * 3 + 2, none⟩ = some l.lv ∧ ∀ o, w.frozen? ⟨g, o, none⟩ = false := by
  obtain ⟨g, cap, cur, rfl, rfl, hbg, hglt, hncap, hcapm, hg, hs, ht⟩ := h.lastRow
  have hcl : ∀ i, i < 3 → w.cell? ⟨g, qs.length * 3 + i, none⟩ = l.cells[i]? := by
    intro i hi
    rw [cell_of_row w g (qs.length * 3 + i) cur e (0, 0) hg]
    have := flat_get (qs ++ [l]) qs.length i (by simp) hi
    rw [← ht, List.getElem?_take, if_pos (by omega)] at this
    have e : (qs ++ [l]).getD qs.length Pc.nil = l := by simp [List.getD]
    rw [e] at this
    simpa using this
  have c0 := hcl 0 (by omega)
  have c1 := hcl 1 (by omega)
  have c2 := hcl 2 (by omega)
  simp only [Pc.cells, Nat.add_zero, List.getElem?_cons_zero, List.getElem?_cons_succ] at c0 c1 c2
  exact ⟨g, cap, rfl, rfl, hbg, hglt, hncap, hcapm, c0, c1, c2, fun o => by simp [World.frozen?, hg]⟩

theorem OwnP.setLit {e : TypeId} {w : World} {base : Nat} {qs : List Pc} {l : Pc} {g cap : Nat} (h : OwnP e w base (.slice (some ⟨g, 0, none⟩) (qs.length + 1) cap) (qs.length + 1) (qs ++ [l])) (lv : Value) (lit : Option (List Int)) :
    OwnP e (w.setCell ⟨g, qs.length * 3 + 2, none⟩ lv) base (.slice (some ⟨g, 0, none⟩) (qs.length + 1) cap) (qs.length + 1) (qs ++ [{ l with lv := lv, lit := lit }]) := by
  obtain ⟨g', cap', cur, hv, _, hb, hlt, hn, hm, hg, hs, ht⟩ := h.lastRow
  simp only [Value.slice.injEq, Option.some.injEq, Addr.mk.injEq, true_and, and_true] at hv
  obtain ⟨rfl, rfl⟩ := hv
  refine ⟨by simp, by rw [flat_length]; simp, .inr ⟨g, cap, cur.setIfInBounds (qs.length * 3 + 2) lv, rfl, hb, ?_, hn, hm, by simpa using hs, ?_⟩⟩
  · simp only [World.setCell, Array.getElem?_modify, if_true, hg]
    rfl
  · rw [Array.toList_setIfInBounds, List.take_set, ht, flat_append, flat_append]
    have hl3 : (flat qs).length = qs.length * 3 := flat_length qs
    rw [List.set_append, if_neg (by omega), hl3, show qs.length * 3 + 2 - qs.length * 3 = 2 by omega]
    rfl

/-- A run grows by a byte. -/
theorem St.merged {w w' : World} {B0 : Nat} {qs : List Pc} {l : Pc} {g : Int} {L : Nat} {v : Value} {n : Nat} {xs : List Value} (h : St w B0 (qs ++ [l]) g L) (hown : w.ownsRow B0 40 3 v n xs) (hg : w.grownBy w' v.ownBlock) (hl : l.lit = none) (hv : l.off + l.n ≤ 2305843009213759486) : St w' B0 (qs ++ [{ l with n := l.n + 1 }]) (-1) (L + 1) := by
  have hl2 := lits_grown h.lits hown hg
  have hn := h.nums l (by simp)
  refine ⟨fun q hq => ?_, fun q hq => ?_, by have := h.len; simp at this ⊢; omega, fun hh => absurd rfl hh⟩
  · rcases List.mem_append.1 hq with h1 | h1
    · exact hl2 q (by simp [h1])
    · simp at h1; subst h1
      exact hl2 l (by simp)
  · rcases List.mem_append.1 hq with h1 | h1
    · exact h.nums q (by simp [h1])
    · simp at h1; subst h1
      exact ⟨by show 0 ≤ l.n + 1; have := hn.1; omega, fun _ => by have := hn.2 hl; show 0 ≤ l.off ∧ l.off + (l.n + 1) ≤ _; omega⟩

/-- A run or a literal that came in is laid. -/
theorem St.laid {w w' : World} {B0 : Nat} {ws : List Pc} {p : Pc} {g : Int} {L L' : Nat} {v : Value} {n : Nat} {xs : List Value} (h : St w B0 ws g L) (hown : w.ownsRow B0 40 3 v n xs) (hg : w.grownBy w' v.ownBlock) (hp : LitM w' B0 w'.heap.size p) (hn : NumM p) (hL : L + 1 ≤ L') : St w' B0 (ws ++ [p]) (-1) L' := by
  have hl2 := lits_grown h.lits hown hg
  refine ⟨fun q hq => ?_, fun q hq => ?_, by have := h.len; simp; omega, fun hh => absurd rfl hh⟩
  · rcases List.mem_append.1 hq with h1 | h1
    · exact hl2 q h1
    · simp at h1; subst h1; exact hp
  · rcases List.mem_append.1 hq with h1 | h1
    · exact h.nums q h1
    · simp at h1; subst h1; exact hn

theorem litM_run (w : World) (B0 base : Nat) (off n : Int) : LitM w B0 base (segRun off n) := ⟨rfl, fun ad n c hq _ => by simp [segRun] at hq⟩

/-- A literal just begun. -/
def newLit (b : Nat) : Pc := ⟨0, 0, .slice (some ⟨b, 0, none⟩) 0 0, some []⟩

theorem St.begun {w w' : World} {B0 : Nat} {ws : List Pc} {g g' : Int} {L : Nat} {v : Value} {n : Nat} {xs : List Value} (h : St w B0 ws g L) (h0 : B0 ≤ w.heap.size) (hown : w.ownsRow B0 40 3 v n xs) (hg : (w.alloc (.cells #[] 5)).grownBy w' v.ownBlock) : St w' B0 (ws ++ [newLit w.heap.size]) g' (L + 1) := by
  have hown1 := hown.alloc (.cells #[] 5)
  have hs1 : (w.alloc (.cells #[] 5)).heap.size = w.heap.size + 1 := by simp
  have hl1 : ∀ q ∈ ws, LitM (w.alloc (.cells #[] 5)) B0 w.heap.size q := fun q hq => (h.lits q hq).keep fun b hb _ => Below.heap_alloc _ _ _ hb
  have hrow : (w.alloc (.cells #[] 5)).ownsRow w.heap.size 5 1 (.slice (some ⟨w.heap.size, 0, none⟩) 0 0) 0 [] := World.ownsRow_made w #[] 0 (Nat.le_refl _) (Nat.zero_le _) rfl
  have hrow' := owns_kept hown1 hrow (by decide) hg
  have hsz : w.heap.size + 1 ≤ w'.heap.size := by have := hg.size; omega
  refine ⟨fun q hq => ?_, fun q hq => ?_, by have := h.len; simp; omega, fun _ => ⟨ws, newLit w.heap.size, rfl, [], w.heap.size, 0, w.heap.size, rfl, rfl, Nat.zero_le _, fun x hx => by simp at hx, rfl, hrow', h0, by omega, fun q hq => (hl1 q hq).grown hown1 hg⟩⟩
  · rcases List.mem_append.1 hq with h1 | h1
    · exact ((hl1 q h1).grown hown1 hg).mono (by omega)
    · simp at h1; subst h1
      exact litM_of_owns (bs := []) rfl (fun x hx => by simp at hx) rfl hrow'
  · rcases List.mem_append.1 hq with h1 | h1
    · exact h.nums q h1
    · simp at h1; subst h1
      exact ⟨by show (0 : Int) ≤ 0; omega, fun hh => by simp [newLit] at hh⟩

/-- A literal grows by a byte: its row turns, then the row of the runs. -/
theorem St.byted {w w1 w2 : World} {B0 : Nat} {qs : List Pc} {l : Pc} {g' : Int} {L base c gb : Nat} {v : Value} {n : Nat} {xs : List Value} {bs : List Int} {x : Int} {v' : Value} {c' gb' : Nat}
    (h2 : ∀ q ∈ qs, NumM q) (h3 : qs.length + 1 ≤ L) (h4 : ∀ q ∈ qs, LitM w B0 base q) (h0 : B0 ≤ base) (hb : base ≤ w.heap.size)
    (r4 : w.ownsRow base 5 1 (.slice (some ⟨gb, 0, none⟩) bs.length c) bs.length (bs.map (Value.int .u8))) (hbL : bs.length + 1 ≤ L) (hby : ∀ x ∈ bs, 0 ≤ x ∧ x ≤ 255) (hx : 0 ≤ x ∧ x ≤ 255)
    (hown : w.ownsRow B0 40 3 v n xs) (hg1 : w.grownBy w1 (Value.slice (some ⟨gb, 0, none⟩) bs.length c).ownBlock) (hv' : v' = .slice (some ⟨gb', 0, none⟩) (bs.length + 1) c') (hr1 : w1.ownsRow base 5 1 v' (bs.length + 1) (bs.map (Value.int .u8) ++ [.int .u8 x]))
    (hg2 : w1.grownBy w2 v.ownBlock) : St w2 B0 (qs ++ [⟨l.off, (bs.length : Int) + 1, v', some (bs ++ [x])⟩]) g' L := by
  have hown1 := owns_kept r4 hown (by decide) hg1
  have hr2 := owns_kept hown1 hr1 (by decide) hg2
  have hq2 : ∀ q ∈ qs, LitM w2 B0 base q := fun q hq => ((h4 q hq).grown5 r4 hg1 h0).grown hown1 hg2
  have hbs : ∀ y ∈ bs ++ [x], 0 ≤ y ∧ y ≤ 255 := fun y hy => by
    rcases List.mem_append.1 hy with h5 | h5
    · exact hby y h5
    · simp at h5; subst h5; exact hx
  have hr3 : w2.ownsRow base 5 1 v' (bs ++ [x]).length ((bs ++ [x]).map (Value.int .u8)) := by simpa using hr2
  have hv3 : v' = .slice (some ⟨gb', 0, none⟩) (bs ++ [x]).length c' := by simpa using hv'
  have hsz : base ≤ w2.heap.size := Nat.le_trans hb (Nat.le_trans hg1.size hg2.size)
  refine ⟨fun q hq => ?_, fun q hq => ?_, by simp; omega, fun _ => ⟨qs, _, rfl, bs ++ [x], base, c', gb', rfl, by simp, by simp; omega, hbs, hv3, hr3, h0, hsz, hq2⟩⟩
  · rcases List.mem_append.1 hq with h1 | h1
    · exact (hq2 q h1).mono hsz
    · simp at h1; subst h1
      exact litM_of_owns (bs := bs ++ [x]) rfl hbs hv3 hr3
  · rcases List.mem_append.1 hq with h1 | h1
    · exact h2 q h1
    · simp at h1; subst h1
      exact ⟨by show (0 : Int) ≤ (bs.length : Int) + 1; omega, fun hh => by simp at hh⟩

/-- 'append' of one byte to the last literal, as one step of a region that draws. -/
theorem step_append_own {P : Program} {ops : Array Oper} {o : Oper} {a : Act} {w : World} {K : Act → World → Prop} {Q : Exit → Act → World → Prop} {E : Prop}
    (hg : o.guard = none) (s x : Operand) (t : TypeId) (hop : o.op = Op.call { callee := Callee.builtin Builtin.append, args := #[s, x], argTypes := #[t, t] })
    (base : Nat) (e : TypeId) (z : Value) (size bytes : Nat) (ht : P.underlying t = some (.slice e)) (hinfo : (P.info? e).map (fun i => (i.zero, i.size, i.bytes)) = some (some z, size, bytes)) (hzs : z.cells.size = size) (hsz : 0 < size)
    (v : Value) (n : Nat) (xs : List Value) (hs : a.eval s = v) (hown : w.ownsRow base e size v n xs)
    (ad : Addr) (m c : Nat) (news : List Value) (hx : a.eval x = .slice (some ad) m c) (hl : news.length = m * size) (hnews : ∀ j u, news[j]? = some u → w.cell? (ad.add j) = some u) (h1 : ∀ u ∈ news, u.oneCell' = true)
    (h63 : n + m ≤ maxLen) (hbytes : (n + m) * bytes ≤ 140737488355328) (hbase : base ≤ w.heap.size)
    (h : ∀ v' w', w'.ownsRow base e size v' (n + m) (xs ++ news) → w.grownBy w' v.ownBlock → (v' = .slice none 0 0 ↔ v = .slice none 0 0 ∧ m = 0) → K (a.put o.dst v') w') :
    if Region.wanted o (yielded ops a.tmps) = true then Oper.wp P o a w K Q else E := by
  have hw : Region.wanted o (yielded ops a.tmps) = true := by simp [Region.wanted, hg]
  rw [if_pos hw]
  obtain ⟨i, hi, hz, hz1, hz2⟩ := info_parts hinfo
  exact wp_append_own w s x t hop base e i z size bytes ht hi hz hz1 hz2 hzs hsz v n xs hs hown ad m c news hx hl hnews h1 h63 hbytes hbase h

theorem tokStep_same (m pi : Nat) (A : List Dt) (off n : Int) (bs : List Int) (v s g : Int) (h : (pi : Int) * ((m : Int) + 1) + s + 1 = g) : tokStep m pi (A ++ [(off, n, some bs)], g) (1, v, s) = (A ++ [(off, n + 1, some (bs ++ [v]))], g) := by
  simp [tokStep, h]
theorem tokStep_new (m pi : Nat) (A : List Dt) (v s g : Int) (h : ¬ (pi : Int) * ((m : Int) + 1) + s + 1 = g) : tokStep m pi (A, g) (1, v, s) = (A ++ [(0, 0 + 1, some ([] ++ [v]))], (pi : Int) * ((m : Int) + 1) + s + 1) := by
  simp [tokStep, h]
theorem tokStep_mark_same (m pi : Nat) (A : List Dt) (v s g : Int) (h : (pi : Int) * ((m : Int) + 1) + s + 1 = g) : tokStep m pi (A, g) (2, v, s) = (A, g) := by
  simp [tokStep, h]
theorem tokStep_mark_new (m pi : Nat) (A : List Dt) (v s g : Int) (h : ¬ (pi : Int) * ((m : Int) + 1) + s + 1 = g) : tokStep m pi (A, g) (2, v, s) = (A ++ [(0, 0, some [])], (pi : Int) * ((m : Int) + 1) + s + 1) := by
  simp [tokStep, h]

/-- What is owned is a matter of the heap. -/
theorem owns_heap {w w' : World} {base : Nat} {e : TypeId} {size : Nat} {v : Value} {n : Nat} {xs : List Value} (h : w.ownsRow base e size v n xs) (hh : w'.heap = w.heap) : w'.ownsRow base e size v n xs := by
  obtain ⟨h1, h2⟩ := h
  refine ⟨h1, ?_⟩
  rw [hh]
  exact h2

theorem owns_shape {w : World} {base : Nat} {e : TypeId} {size : Nat} {v : Value} {n : Nat} {xs : List Value} (h : w.ownsRow base e size v (n + 1) xs) : ∃ g c, v = .slice (some ⟨g, 0, none⟩) (n + 1) c := by
  rcases h.2 with ⟨_, h0⟩ | ⟨g, cap, cur, rfl, _⟩
  · omega
  · exact ⟨g, cap, rfl⟩
end Go.Proofs.Qxb6617398a
