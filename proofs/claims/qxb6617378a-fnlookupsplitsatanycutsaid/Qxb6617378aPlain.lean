/-
  Plain functions and laws for the seat b6617378a: association lists, a map's entries in memory, a chain of scopes in memory. No function of the program is named here.
-/
import Derived.WalkKit
import Derived.MapKept
namespace Go.Proofs.Qxb6617378a
open Go.RowKit

abbrev KV := List (ByteArray × ByteArray)

/-- What a list of pairs binds k to: the first pair that bears k. -/
def find (k : ByteArray) : KV → Option ByteArray
  | [] => none
  | (a, b) :: r => if k = a then some b else find k r

/-- The list with k bound to v: in the place of the first pair that bears k, else at the end. -/
def put (k v : ByteArray) : KV → KV
  | [] => [(k, v)]
  | (a, b) :: r => if k = a then (k, v) :: r else (a, b) :: put k v r

/-- The pairs of ps laid one after the other over m. -/
def puts (m : KV) : KV → KV
  | [] => m
  | (a, b) :: r => puts (put a b m) r

/-- The last pair of ps that bears k. -/
def last (k : ByteArray) : KV → Option ByteArray
  | [] => none
  | (a, b) :: r => match last k r with
    | some x => some x
    | none => if k = a then some b else none

theorem find_put (k v q : ByteArray) : ∀ m, find q (put k v m) = if q = k then some v else find q m
  | [] => by simp [put, find]
  | (a, b) :: r => by
    have ih := find_put k v q r
    unfold put
    by_cases h : k = a
    · subst h
      simp only [if_true, find]
      split <;> rfl
    · simp only [if_neg h, find, ih]
      by_cases h1 : q = a
      · subst h1
        simp [Ne.symm h]
      · simp [h1]

theorem find_puts (q : ByteArray) : ∀ ps m, find q (puts m ps) = match last q ps with | some x => some x | none => find q m
  | [], m => by simp [puts, last]
  | (a, b) :: r, m => by
    rw [puts, find_puts q r, last]
    cases h : last q r with
    | some x => rfl
    | none =>
      simp only [find_put]
      split <;> rfl

theorem puts_snoc (a b : ByteArray) : ∀ ps m, puts m (ps ++ [(a, b)]) = put a b (puts m ps)
  | [], m => rfl
  | (c, d) :: r, m => by simpa [puts] using puts_snoc a b r (put c d m)

theorem last_append (k : ByteArray) : ∀ ps qs, last k (ps ++ qs) = match last k qs with | some x => some x | none => last k ps
  | [], qs => by cases h : last k qs <;> simp [last, h]
  | (a, b) :: r, qs => by
    rw [List.cons_append, last, last_append k r qs, last]
    cases h : last k qs <;> rfl

theorem last_snoc (k a b : ByteArray) (ps : KV) : last k (ps ++ [(a, b)]) = if k = a then some b else last k ps := by
  rw [last_append]
  by_cases h : k = a <;> simp [last, h]

/-! ### a map's entries in memory -/

/-- The entries es hold just the pairs kvs, in their order. -/
def Ents (es : List MapEntry) (kvs : KV) : Prop := es.map (fun e => (e.key, e.val)) = kvs.map (fun p => (Value.string p.1, Value.string p.2))

theorem findNow_none (k : ByteArray) : ∀ (es : List MapEntry) (kvs : KV) (i : Nat), Ents es kvs → find k kvs = none → Instr.findNow .string (.string k) es i = some none
  | [], kvs, i, h, hf => rfl
  | e :: es, [], i, h, hf => by simp [Ents] at h
  | e :: es, (a, b) :: r, i, h, hf => by
    simp only [Ents, List.map_cons, List.cons.injEq, Prod.mk.injEq] at h
    obtain ⟨⟨h1, h2⟩, h3⟩ := h
    unfold find at hf
    split at hf
    · cases hf
    · rename_i hne
      have : (k == a) = false := by
        cases hh : (k == a) with
        | false => rfl
        | true => exact absurd ((MapKept.bytes_beq _ _).1 hh) hne
      simp only [Instr.findNow, h1, Instr.sameNow, this]
      exact findNow_none k es r (i + 1) h3 hf

theorem findNow_some (k v : ByteArray) : ∀ (es : List MapEntry) (kvs : KV) (i : Nat), Ents es kvs → find k kvs = some v →
    ∃ j, Instr.findNow .string (.string k) es i = some (some (i + j, .string v)) ∧ (es[j]?).map (·.key) = some (.string k) ∧ j < es.length ∧
      ∀ x e', e'.key = Value.string k → e'.val = Value.string x → Ents (es.set j e') (put k x kvs)
  | [], [], i, h, hf => by simp [find] at hf
  | [], p :: r, i, h, hf => by simp [Ents] at h
  | e :: es, [], i, h, hf => by simp [Ents] at h
  | e :: es, (a, b) :: r, i, h, hf => by
    simp only [Ents, List.map_cons, List.cons.injEq, Prod.mk.injEq] at h
    obtain ⟨⟨h1, h2⟩, h3⟩ := h
    unfold find at hf
    split at hf
    · rename_i heq
      subst heq
      cases hf
      refine ⟨0, ?_, by simp [h1], by simp, ?_⟩
      · simp only [Instr.findNow, h1, Instr.sameNow, (MapKept.bytes_beq k k).2 rfl, h2, Nat.add_zero]
      · intro x e' g1 g2
        simp only [List.set_cons_zero, put, if_true, Ents, List.map_cons, g1, g2, h3]
    · rename_i hne
      have : (k == a) = false := by
        cases hh : (k == a) with
        | false => rfl
        | true => exact absurd ((MapKept.bytes_beq _ _).1 hh) hne
      obtain ⟨j, g1, g2, g3, g4⟩ := findNow_some k v es r (i + 1) h3 hf
      refine ⟨j + 1, ?_, by simpa using g2, by simpa using g3, ?_⟩
      · simp only [Instr.findNow, h1, Instr.sameNow, this, g1]
        congr 3
        omega
      · intro x e' q1 q2
        have := g4 x e' q1 q2
        simp only [Ents] at this ⊢
        simp only [List.set_cons_succ, put, if_neg hne, List.map_cons, h1, h2, this]

theorem ents_push {es : List MapEntry} {kvs : KV} (k v : ByteArray) (h : Ents es kvs) (hf : find k kvs = none) (born : Nat) : Ents (es ++ [{ key := .string k, val := .string v, born := born }]) (put k v kvs) := by
  induction kvs generalizing es with
  | nil =>
    have : es = [] := by simpa [Ents] using h
    subst this
    simp [Ents, put]
  | cons p r ih =>
    obtain ⟨a, b⟩ := p
    cases es with
    | nil => simp [Ents] at h
    | cons e es =>
      simp only [Ents, List.map_cons, List.cons.injEq] at h
      unfold find at hf
      split at hf
      · cases hf
      · rename_i hne
        have := ih h.2 hf
        simp only [Ents] at this ⊢
        simp only [List.cons_append, List.map_cons, put, if_neg hne, h.1, this]

section
variable {P : Program} {w : World}

theorem run_update {t kt et : TypeId} (ht : P.underlying t = some (.map kt et)) (hk : P.underlying kt = some .string) {r : Nat} {es : Array MapEntry} {clock : Nat} (hb : w.heap[r]? = some (.map es clock)) {kvs : KV} (he : Ents es.toList kvs) (k v : ByteArray) :
    ∃ es' clock', (Instr.mapUpdate t (.map (some r)) (.string k) (.string v)).run P w = .ok () { w with heap := w.heap.setIfInBounds r (.map es' clock') } ∧ Ents es'.toList (put k v kvs) := by
  have hc : (Instr.checkKey false 10000 kt (.string k)).run P w = .ok () w := MapKept.run_checkKey (k := .string k) hk (by simp [MapKept.IsKey]) false 9999
  cases hf : find k kvs with
  | none =>
    have hn := findNow_none k es.toList kvs 0 he hf
    refine ⟨es.push { key := .string k, val := .string v, born := clock }, clock + 1, ?_, by simpa using ents_push k v he hf clock⟩
    simp [Instr.mapUpdate, run_underlying ht, MapKept.run_getObj_map hb, hc, MapKept.run_findKey hk hn, MapKept.run_setObj_map _ hb, Result.andThen]
  | some x =>
    obtain ⟨j, hn, hj, hlt, hset⟩ := findNow_some k x es.toList kvs 0 he hf
    have hlt' : j < es.size := by simpa using hlt
    have hkey : ((es[j]?).map (·.key)).getD (.string k) = .string k := by
      have : (es[j]?).map (·.key) = some (.string k) := by simpa using hj
      rw [this]; rfl
    refine ⟨es.modify j fun e => { e with key := .string k, val := .string v }, clock, ?_, ?_⟩
    · have hs := MapKept.run_keyThatStays (P := P) (w := w) (d := .string) (k := .string k) (by simp [MapKept.IsKey])
      simp only [Nat.zero_add] at hn
      simp [Instr.mapUpdate, run_underlying ht, MapKept.run_getObj_map hb, hc, MapKept.run_findKey hk hn, hkey, hs, MapKept.run_setObj_map _ hb, Result.andThen]
    · have h2 : (es.modify j fun e => { e with key := .string k, val := .string v }).toList = es.toList.set j { es[j] with key := .string k, val := .string v } := by
        apply List.ext_getElem?
        intro i
        simp only [Array.toList_modify, List.getElem?_modify, List.getElem?_set, Array.length_toList, Array.getElem?_toList]
        by_cases hi : j = i
        · subst hi
          simp [hlt']
        · simp [hi]
      rw [h2]
      exact hset v _ rfl rfl

theorem run_look {t kt et : TypeId} (ht : P.underlying t = some (.map kt et)) (hk : P.underlying kt = some .string) (hz : (zeroValue et).run P w = .ok (.string ByteArray.empty) w) {r : Nat} {es : Array MapEntry} {clock : Nat} (hb : w.heap[r]? = some (.map es clock)) {kvs : KV} (he : Ents es.toList kvs) (k : ByteArray) :
    (Instr.lookup t (.map (some r)) (.string k) true).run P w = .ok (.tuple #[.string ((find k kvs).getD ByteArray.empty), .bool (find k kvs).isSome]) w := by
  have hc : ∀ b, (Instr.checkKey b 10000 kt (.string k)).run P w = .ok () w := fun b => MapKept.run_checkKey (k := .string k) hk (by simp [MapKept.IsKey]) b 9999
  cases hf : find k kvs with
  | none =>
    have hn := findNow_none k es.toList kvs 0 he hf
    simp [Instr.lookup, run_underlying ht, MapKept.run_getObj_map hb, hc, MapKept.run_findKey hk hn, hz, Result.andThen]
  | some x =>
    obtain ⟨j, hn, _, _, _⟩ := findNow_some k x es.toList kvs 0 he hf
    simp [Instr.lookup, run_underlying ht, MapKept.run_getObj_map hb, hc, MapKept.run_findKey hk hn, Result.andThen]

theorem run_look_nil {t kt et : TypeId} (ht : P.underlying t = some (.map kt et)) (hk : P.underlying kt = some .string) (hz : (zeroValue et).run P w = .ok (.string ByteArray.empty) w) (k : ByteArray) :
    (Instr.lookup t (.map none) (.string k) true).run P w = .ok (.tuple #[.string ByteArray.empty, .bool false]) w := by
  have hc : ∀ b, (Instr.checkKey b 10000 kt (.string k)).run P w = .ok () w := fun b => MapKept.run_checkKey (k := .string k) hk (by simp [MapKept.IsKey]) b 9999
  have hn : Instr.findNow .string (.string k) ([] : List MapEntry) 0 = some none := rfl
  simp [Instr.lookup, run_underlying ht, hc, MapKept.run_findKey hk hn, hz, Result.andThen]
end

/-! ### a chain of scopes in memory -/

/-- The value m is a map that binds what kvs binds: nil, or one with just these entries. -/
def IsDecls (w : World) (m : Value) (kvs : KV) : Prop :=
  (m = .map none ∧ kvs = []) ∨ ∃ r es clock, m = .map (some r) ∧ w.heap[r]? = some (.map es clock) ∧ Ents es.toList kvs

/-- The value v leads to the chain of scopes ds, the innermost first. -/
def IsScope (w : World) : List KV → Value → Prop
  | [], v => v = .pointer none
  | d :: ds, v => ∃ b p m, v = .pointer (some ⟨b, 0, none⟩) ∧ w.cell? ⟨b, 0, none⟩ = some p ∧ w.cell? ⟨b, 1, none⟩ = some m ∧ IsDecls w m d ∧ IsScope w ds p

theorem IsDecls.below {w w' : World} {m : Value} {kvs : KV} (h : IsDecls w m kvs) (hb : Below w.heap.size w w') : IsDecls w' m kvs := by
  rcases h with h | ⟨r, es, clock, h1, h2, h3⟩
  · exact .inl h
  · exact .inr ⟨r, es, clock, h1, by rw [hb.block r (Array.getElem?_eq_some_iff.1 h2).1]; exact h2, h3⟩

theorem IsScope.below {w w' : World} (hb : Below w.heap.size w w') : ∀ {ds : List KV} {v : Value}, IsScope w ds v → IsScope w' ds v
  | [], v, h => h
  | d :: ds, v, ⟨b, p, m, h1, h2, h3, h4, h5⟩ =>
    ⟨b, p, m, h1, by rw [hb.cell (p := ⟨b, 0, none⟩) (World.block_lt_of_cell? _ _ h2)]; exact h2, by rw [hb.cell (p := ⟨b, 1, none⟩) (World.block_lt_of_cell? _ _ h3)]; exact h3, h4.below hb, IsScope.below hb h5⟩

/-- What the chain answers, "xml" set apart. -/
def chainLook (q : ByteArray) : List KV → ByteArray × Bool
  | [] => (ByteArray.empty, decide (q = ByteArray.empty))
  | d :: ds => match find q d with
    | some u => (u, true)
    | none => chainLook q ds

end Go.Proofs.Qxb6617378a
