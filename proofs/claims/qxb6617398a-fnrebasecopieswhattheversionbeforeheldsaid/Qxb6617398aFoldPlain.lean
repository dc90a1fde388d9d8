/-
  The plain law of joining: the normal form. No function of the program is walked here.
-/
import Derived.Test.Qxb6617398aMore
namespace Go.Proofs.Qxb6617398a

/-- Joining one by one onto nothing. -/
def foldJ (qs : List Pc) : List Pc := qs.foldl joinP []

theorem foldJ_snoc (qs : List Pc) (p : Pc) : foldJ (qs ++ [p]) = joinP (foldJ qs) p := by simp [foldJ]

/-- joinP in one of three ways. -/
theorem joinP_cases (ps : List Pc) (p : Pc) : (p.n = 0 ∧ joinP ps p = ps) ∨
    (¬ p.n = 0 ∧ ∃ qs l, ps = qs ++ [l] ∧ l.lit = none ∧ p.lit = none ∧ l.off + l.n = p.off ∧ joinP ps p = qs ++ [{ l with n := l.n + p.n }]) ∨
    (¬ p.n = 0 ∧ joinP ps p = ps ++ [p] ∧ ∀ qs l, ps = qs ++ [l] → ¬ (l.lit = none ∧ p.lit = none ∧ l.off + l.n = p.off)) := by
  by_cases h0 : p.n = 0
  · exact .inl ⟨h0, joinP_zero ps p h0⟩
  · by_cases hps : ps = []
    · subst hps
      exact .inr (.inr ⟨h0, by rw [joinP_nil p h0]; rfl, fun qs l h => by simp at h⟩)
    · obtain ⟨qs, l, rfl⟩ : ∃ qs l, ps = qs ++ [l] := ⟨ps.dropLast, ps.getLast hps, (List.dropLast_concat_getLast hps).symm⟩
      by_cases hc : l.lit = none ∧ p.lit = none ∧ l.off + l.n = p.off
      · exact .inr (.inl ⟨h0, qs, l, rfl, hc.1, hc.2.1, hc.2.2, joinP_merge qs l p h0 hc⟩)
      · refine .inr (.inr ⟨h0, joinP_snoc qs l p h0 hc, fun qs' l' h => ?_⟩)
        have := List.append_inj' h rfl
        obtain ⟨_, h2⟩ := this
        simp only [List.cons.injEq, and_true] at h2
        rw [← h2]; exact hc

/-- Runs of bytes, laid one behind the other. -/
theorem cellsAt_add (off : Int) (a b : Nat) : cellsAt off none (a + b) = cellsAt off none a ++ cellsAt (off + a) none b := by
  induction b with
  | zero => simp [cellsAt]
  | succ b ih =>
    rw [← Nat.add_assoc, cellsAt_succ, ih, cellsAt_succ, List.append_assoc]
    congr 2
    simp [cellAt]; omega

theorem bytes_merge (l p : Pc) (h1 : l.lit = none) (h2 : p.lit = none) (h3 : l.off + l.n = p.off) (hl : 0 ≤ l.n) (hp : 0 ≤ p.n) : ({ l with n := l.n + p.n } : Pc).bytes = l.bytes ++ p.bytes := by
  unfold Pc.bytes
  simp only [h1, h2]
  have e : (l.n + p.n).toNat = l.n.toNat + p.n.toNat := by omega
  rw [e, cellsAt_add]
  congr 2
  omega

theorem bytes_zero (p : Pc) (h : p.n = 0) : p.bytes = [] := by simp [Pc.bytes, h, cellsAt]

theorem bytesOf_join (ps : List Pc) (p : Pc) (hps : ∀ q ∈ ps, 0 ≤ q.n) (hp : 0 ≤ p.n) : bytesOf (joinP ps p) = bytesOf ps ++ p.bytes := by
  rcases joinP_cases ps p with ⟨h0, h⟩ | ⟨_, qs, l, rfl, h1, h2, h3, h⟩ | ⟨_, h, _⟩
  · rw [h, bytes_zero p h0, List.append_nil]
  · rw [h, bytesOf_append, bytesOf_append]
    have hl : 0 ≤ l.n := hps l (by simp)
    have := bytes_merge l p h1 h2 h3 hl hp
    simp only [bytesOf, List.flatMap_cons, List.flatMap_nil, List.append_nil, this, List.append_assoc]
  · rw [h, bytesOf_append]
    simp [bytesOf]

theorem tot_join (ps : List Pc) (p : Pc) : tot (joinP ps p) = tot ps + p.n := by
  rcases joinP_cases ps p with ⟨h0, h⟩ | ⟨_, qs, l, rfl, h1, h2, h3, h⟩ | ⟨_, h, _⟩
  · rw [h]; omega
  · rw [h, tot_snoc, tot_snoc]; simp only; omega
  · rw [h, tot_snoc]

/-- What holds of each piece that joining makes: P of the pieces, kept by merging. -/
theorem join_all {P : Pc → Prop} (ps : List Pc) (p : Pc) (hps : ∀ q ∈ ps, P q) (hp : ¬ p.n = 0 → P p) (hm : ∀ l, P l → l.lit = none → p.lit = none → l.off + l.n = p.off → ¬ p.n = 0 → l ∈ ps → P { l with n := l.n + p.n }) : ∀ q ∈ joinP ps p, P q := by
  rcases joinP_cases ps p with ⟨h0, h⟩ | ⟨h0, qs, l, rfl, h1, h2, h3, h⟩ | ⟨h0, h, _⟩
  · rw [h]; exact hps
  · rw [h]
    intro q hq
    rcases List.mem_append.1 hq with hq | hq
    · exact hps q (by simp [hq])
    · rw [List.mem_singleton.1 hq]
      exact hm l (hps l (by simp)) h1 h2 h3 h0 (by simp)
  · rw [h]
    intro q hq
    rcases List.mem_append.1 hq with hq | hq
    · exact hps q hq
    · rw [List.mem_singleton.1 hq]; exact hp h0

theorem tot_nonneg (ps : List Pc) (h : ∀ q ∈ ps, 0 ≤ q.n) : 0 ≤ tot ps := by
  induction ps with
  | nil => simp [tot]
  | cons p ps ih =>
    have h1 := h p (by simp)
    have h2 := ih (fun q hq => h q (by simp [hq]))
    have : tot (p :: ps) = p.n + tot ps := by simp [tot]
    omega

theorem n_le_tot (ps : List Pc) (h : ∀ q ∈ ps, 0 ≤ q.n) (q : Pc) (hq : q ∈ ps) : q.n ≤ tot ps := by
  induction ps with
  | nil => simp at hq
  | cons p ps ih =>
    have h2 := tot_nonneg ps (fun q hq => h q (by simp [hq]))
    have h1 := h p (by simp)
    have e : tot (p :: ps) = p.n + tot ps := by simp [tot]
    rcases List.mem_cons.1 hq with rfl | hq
    · omega
    · have := ih (fun q hq => h q (by simp [hq])) hq
      omega

/-- No run is followed by a run that starts where it ends. -/
def NF (ps : List Pc) : Prop := ∀ i, i + 1 < ps.length → (ps.getD i Pc.nil).lit = none → (ps.getD (i + 1) Pc.nil).lit = none → ¬ (ps.getD i Pc.nil).off + (ps.getD i Pc.nil).n = (ps.getD (i + 1) Pc.nil).off

theorem getD_left (ps qs : List Pc) (i : Nat) (h : i < ps.length) : (ps ++ qs).getD i Pc.nil = ps.getD i Pc.nil := by
  rw [List.getD, List.getD, List.getElem?_append_left h]
theorem getD_last (ps : List Pc) (p : Pc) : (ps ++ [p]).getD ps.length Pc.nil = p := by
  rw [List.getD, List.getElem?_append_right (by omega)]
  simp

theorem NF_snoc (qs : List Pc) (l p : Pc) (h : NF (qs ++ [l])) (hc : ¬ (l.lit = none ∧ p.lit = none ∧ l.off + l.n = p.off)) : NF (qs ++ [l] ++ [p]) := by
  intro i hi h1 h2 h3
  have hil : i + 1 < (qs ++ [l]).length ∨ i = qs.length := by simp at hi ⊢; omega
  rcases hil with hil | rfl
  · rw [getD_left _ _ _ (by omega)] at h1 h3
    rw [getD_left _ _ _ hil] at h2 h3
    exact h i hil h1 h2 h3
  · rw [getD_left _ _ _ (by simp), getD_last] at h1 h3
    have e : qs.length + 1 = (qs ++ [l]).length := by simp
    rw [e, getD_last] at h2 h3
    exact hc ⟨h1, h2, h3⟩

theorem NF_merge (qs : List Pc) (l : Pc) (m : Int) (h : NF (qs ++ [l])) : NF (qs ++ [{ l with n := m }]) := by
  intro i hi h1 h2 h3
  have hl : (qs ++ [({ l with n := m } : Pc)]).length = (qs ++ [l]).length := by simp
  rw [hl] at hi
  have hi2 : i < qs.length := by simp at hi; omega
  rw [getD_left _ _ _ hi2] at h1 h3
  have key := h i hi
  rw [getD_left _ _ _ hi2] at key
  by_cases hq : i + 1 < qs.length
  · rw [getD_left _ _ _ hq] at h2 h3 key
    exact key h1 h2 h3
  · have e : i + 1 = qs.length := by simp at hi; omega
    rw [e, getD_last] at h2 h3 key
    exact key h1 h2 h3

theorem NF_join (ps : List Pc) (p : Pc) (h : NF ps) : NF (joinP ps p) := by
  rcases joinP_cases ps p with ⟨_, e⟩ | ⟨_, qs, l, rfl, _, _, _, e⟩ | ⟨_, e, hn⟩
  · rw [e]; exact h
  · rw [e]; exact NF_merge qs l _ h
  · rw [e]
    by_cases hps : ps = []
    · subst hps
      intro i hi
      simp at hi
    · obtain ⟨qs, l, rfl⟩ : ∃ qs l, ps = qs ++ [l] := ⟨ps.dropLast, ps.getLast hps, (List.dropLast_concat_getLast hps).symm⟩
      exact NF_snoc qs l p h (hn qs l rfl)

theorem NF_fold (qs : List Pc) : ∀ k, k ≤ qs.length → NF (foldJ (qs.take k))
  | 0, _ => fun i hi => by simp [foldJ] at hi
  | k + 1, h => by
    rw [take_snocP qs k (by omega), foldJ_snoc]
    exact NF_join _ _ (NF_fold qs k (by omega))

/-- The literals of the fold are those of the list that hold bytes. -/
def isLit (p : Pc) : Bool := !p.lit.isNone
def keeps (p : Pc) : Bool := !skips p

theorem lits_join (ps : List Pc) (p : Pc) : (joinP ps p).filter isLit = ps.filter isLit ++ [p].filter keeps := by
  rcases joinP_cases ps p with ⟨h0, e⟩ | ⟨h0, qs, l, rfl, h1, h2, _, e⟩ | ⟨h0, e, _⟩
  · have : [p].filter keeps = [] := by simp [keeps, skips, h0]
    rw [e, this, List.append_nil]
  · have : [p].filter keeps = [] := by simp [keeps, skips, h2]
    rw [e, this, List.append_nil, List.filter_append, List.filter_append]
    simp [isLit, h1]
  · rw [e, List.filter_append]
    congr 1
    simp [isLit, keeps, skips, h0, List.filter_cons]

theorem lits_fold (qs : List Pc) : ∀ k, k ≤ qs.length → (foldJ (qs.take k)).filter isLit = (qs.take k).filter keeps
  | 0, _ => by simp [foldJ]
  | k + 1, h => by
    rw [take_snocP qs k (by omega), foldJ_snoc, lits_join, lits_fold qs k (by omega), List.filter_append]

theorem join_length (ps : List Pc) (p : Pc) : (joinP ps p).length ≤ ps.length + 1 := by
  rcases joinP_cases ps p with ⟨_, e⟩ | ⟨_, qs, l, rfl, _, _, _, e⟩ | ⟨_, e, _⟩ <;> rw [e] <;> simp

theorem fold_length (qs : List Pc) : ∀ k, k ≤ qs.length → (foldJ (qs.take k)).length ≤ k
  | 0, _ => by simp [foldJ]
  | k + 1, h => by
    rw [take_snocP qs k (by omega), foldJ_snoc]
    have := join_length (foldJ (qs.take k)) (qs.getD k Pc.nil)
    have := fold_length qs k (by omega)
    omega

theorem fold_tot (qs : List Pc) : ∀ k, k ≤ qs.length → tot (foldJ (qs.take k)) = tot (qs.take k)
  | 0, _ => by simp [foldJ]
  | k + 1, h => by rw [take_snocP qs k (by omega), foldJ_snoc, tot_join, fold_tot qs k (by omega), tot_snoc]

theorem tot_take_le (qs : List Pc) (h : ∀ q ∈ qs, 0 ≤ q.n) (k : Nat) : tot (qs.take k) ≤ tot qs := by
  have e : tot qs = tot (qs.take k) + tot (qs.drop k) := by rw [← tot_append, List.take_append_drop]
  have := tot_nonneg (qs.drop k) (fun q hq => h q (List.mem_of_mem_drop hq))
  omega

/-- What holds of the pieces of the fold: lengths positive, offsets as they came, literals whole. -/
def Good (w : Go.World) (p : Pc) : Prop := 0 < p.n ∧ (p.lit = none → 0 ≤ p.off ∧ p.off ≤ 2305843009213693951) ∧ (∀ bs, p.lit = some bs → (bs.length : Int) = p.n) ∧ IsLit w p.lv p.lit

theorem fold_good (w : Go.World) (qs : List Pc) (hl : Lits w qs) (hwf : ∀ q ∈ qs, WFr true q) : ∀ k, k ≤ qs.length → ∀ q ∈ foldJ (qs.take k), Good w q
  | 0, _ => by simp [foldJ]
  | k + 1, h => by
    rw [take_snocP qs k (by omega), foldJ_snoc]
    have hm := getD_memP qs k (by omega)
    obtain ⟨g1, g2, g3, g4⟩ := hwf _ hm
    refine join_all _ _ (fold_good w qs hl hwf k (by omega)) (fun h0 => ⟨by omega, g4 rfl, g3, hl _ hm⟩) ?_
    intro l hl1 h1 h2 h3 h0 _
    obtain ⟨f1, f2, f3, f4⟩ := hl1
    refine ⟨by simp only; omega, f2, fun bs hbs => ?_, f4⟩
    simp only at hbs
    rw [h1] at hbs; cases hbs

theorem fold_bytes (qs : List Pc) (hwf : ∀ q ∈ qs, 0 ≤ q.n) : ∀ k, k ≤ qs.length → bytesOf (foldJ (qs.take k)) = bytesOf (qs.take k) ∧ ∀ q ∈ foldJ (qs.take k), 0 ≤ q.n
  | 0, _ => by simp [foldJ, bytesOf]
  | k + 1, h => by
    obtain ⟨h1, h2⟩ := fold_bytes qs hwf k (by omega)
    have hp := hwf _ (getD_memP qs k (by omega))
    rw [take_snocP qs k (by omega), foldJ_snoc]
    refine ⟨?_, ?_⟩
    · rw [bytesOf_join _ _ h2 hp, h1, bytesOf_append]
      simp [bytesOf]
    · refine join_all _ _ h2 (fun _ => hp) ?_
      intro l h3 _ _ _ _ _
      simp only; omega

theorem bytesOf_length (ps : List Pc) (h : ∀ q ∈ ps, 0 ≤ q.n) : ((bytesOf ps).length : Int) = tot ps := by
  induction ps with
  | nil => simp [bytesOf, tot]
  | cons p ps ih =>
    have e : tot (p :: ps) = p.n + tot ps := by simp [tot]
    have e2 : bytesOf (p :: ps) = p.bytes ++ bytesOf ps := rfl
    have h1 := h p (by simp)
    rw [e, e2, List.length_append, bytes_length, ← ih (fun q hq => h q (by simp [hq]))]
    omega

theorem while_cons : ∀ (d : List Pc) (p : Pc) (rest : List Pc), d.filter keeps = p :: rest →
    (d.takeWhile skips).length < d.length ∧ d.getD (d.takeWhile skips).length Pc.nil = p ∧ (d.drop ((d.takeWhile skips).length + 1)).filter keeps = rest
  | [], p, rest, h => by simp at h
  | q :: d, p, rest, h => by
    cases hs : skips q with
    | true =>
      have hk : keeps q = false := by simp [keeps, hs]
      rw [List.filter_cons_of_neg (by rw [hk]; decide)] at h
      obtain ⟨h1, h2, h3⟩ := while_cons d p rest h
      rw [List.takeWhile_cons_of_pos hs, List.length_cons]
      refine ⟨by simp; omega, ?_, ?_⟩
      · rw [List.getD_cons_succ]; exact h2
      · rw [List.drop_succ_cons]; exact h3
    | false =>
      have hk : keeps q = true := by simp [keeps, hs]
      rw [List.filter_cons_of_pos hk] at h
      simp only [List.cons.injEq] at h
      rw [List.takeWhile_cons_of_neg (by rw [hs]; decide)]
      refine ⟨by simp, ?_, ?_⟩
      · simpa using h.1
      · simpa using h.2

theorem while_nil : ∀ (d : List Pc), d.filter keeps = [] → (d.takeWhile skips).length = d.length
  | [], _ => rfl
  | q :: d, h => by
    cases hs : skips q with
    | true =>
      have hk : keeps q = false := by simp [keeps, hs]
      rw [List.filter_cons_of_neg (by rw [hk]; decide)] at h
      rw [List.takeWhile_cons_of_pos hs, List.length_cons, List.length_cons, while_nil d h]
    | false =>
      have hk : keeps q = true := by simp [keeps, hs]
      rw [List.filter_cons_of_pos hk] at h
      cases h

theorem nextLit_cons (qs : List Pc) (k : Nat) (p : Pc) (rest : List Pc) (h : (qs.drop k).filter keeps = p :: rest) :
    nextLit qs k < qs.length ∧ qs.getD (nextLit qs k) Pc.nil = p ∧ (qs.drop (nextLit qs k + 1)).filter keeps = rest := by
  obtain ⟨h1, h2, h3⟩ := while_cons _ p rest h
  unfold nextLit
  rw [List.length_drop] at h1
  refine ⟨by omega, ?_, ?_⟩
  · rw [List.getD, List.getElem?_drop] at h2
    exact h2
  · rw [List.drop_drop] at h3
    rw [Nat.add_assoc]; exact h3

theorem nextLit_nil (qs : List Pc) (k : Nat) (hk : k ≤ qs.length) (h : (qs.drop k).filter keeps = []) : nextLit qs k = qs.length := by
  have := while_nil _ h
  unfold nextLit
  rw [List.length_drop] at this
  omega

theorem filter_lit_drop (out : List Pc) (i : Nat) (h : i < out.length) (hl : isLit (out.getD i Pc.nil) = true) : (out.drop i).filter isLit = out.getD i Pc.nil :: (out.drop (i + 1)).filter isLit := by
  rw [List.drop_eq_getElem_cons h]
  have e : out.getD i Pc.nil = out[i] := by simp [List.getD, h]
  rw [e] at hl ⊢
  rw [List.filter_cons_of_pos hl]

theorem filter_run_drop (out : List Pc) (i : Nat) (h : i < out.length) (hl : isLit (out.getD i Pc.nil) = false) : (out.drop i).filter isLit = (out.drop (i + 1)).filter isLit := by
  rw [List.drop_eq_getElem_cons h]
  have e : out.getD i Pc.nil = out[i] := by simp [List.getD, h]
  rw [e] at hl
  rw [List.filter_cons_of_neg (by rw [hl]; decide)]
end Go.Proofs.Qxb6617398a
