/-
  The plain law of rebase: cutting the version before by whole segments is cutting it byte by byte. No Go in sight.
-/
namespace Go.Proofs.Qxb6617398a

/-- A piece as data: its offset, its length, its literal. -/
abbrev Dt := Int × Int × Option (List Int)

/-- joining, on data. -/
def joinD (ps : List Dt) (p : Dt) : List Dt :=
  if p.2.1 = 0 then ps else
  match ps.getLast? with
  | some l => if l.2.2 = none ∧ p.2.2 = none ∧ l.1 + l.2.1 = p.1 then ps.dropLast ++ [(l.1, l.2.1 + p.2.1, l.2.2)] else ps ++ [p]
  | none => ps ++ [p]

/-- A token of the version before: kind 0: a byte copied from v; kind 1: the byte v put in by piece src; kind 2: the place of piece src, a literal of no bytes. -/
abbrev Tok := Int × Int × Int

/-- Token t of piece j. -/
def tokAt (q : Dt) (j : Nat) (t : Nat) : Tok :=
  match q.2.2 with
  | some bs => (1, bs.getD t 0, j)
  | none => (0, q.1 + t, 0)

/-- The tokens of piece j. -/
def toks (q : Dt) (j : Nat) : List Tok := if q.2.2.isSome ∧ q.2.1 = 0 then [(2, 0, j)] else (List.range q.2.1.toNat).map (tokAt q j)

/-- The tokens of all pieces, the first of which bears number j. -/
def toksAll : List Dt → Nat → List Tok
  | [], _ => []
  | q :: r, j => toks q j ++ toksAll r (j + 1)

/-- Where byte b lies among the tokens. -/
def pos : List Dt → Nat → Nat → Nat
  | [], _, _ => 0
  | q :: r, j, b => if b < q.2.1.toNat then b else (toks q j).length + pos r (j + 1) (b - q.2.1.toNat)

/-- One token laid on what was wanted so far. -/
def tokStep (m pi : Nat) (s : List Dt × Int) (k : Tok) : List Dt × Int :=
  if k.1 = 0 then
    (match s.1.getLast? with
     | some l => if l.2.2 = none ∧ l.1 + l.2.1 = k.2.1 then s.1.dropLast ++ [(l.1, l.2.1 + 1, none)] else s.1 ++ [(k.2.1, 1, none)]
     | none => s.1 ++ [(k.2.1, 1, none)], -1)
  else
    let g : Int := (pi : Int) * ((m : Int) + 1) + k.2.2 + 1
    let w := if g = s.2 then s.1 else s.1 ++ [(0, 0, some [])]
    if k.1 = 1 then
      (match w.getLast? with
       | some l => w.dropLast ++ [(l.1, l.2.1 + 1, some (l.2.2.getD [] ++ [k.2.1]))]
       | none => w, g)
    else (w, g)

/-- The bytes [lo, hi) of a list. -/
def sub (bs : List Int) (lo hi : Nat) : List Int := (bs.take hi).drop lo

/-- One segment of the version before: bytes [lo, hi) of piece q. -/
def segD (q : Dt) (lo hi : Nat) (out : List Dt) : List Dt :=
  match q.2.2 with
  | some bs => out ++ [(0, (hi : Int) - lo, some (sub bs lo hi))]
  | none => joinD out (q.1 + lo, (hi : Int) - lo, none)

/-- The segments of bytes [lo, e) of the pieces, lo lying in the first. -/
def runD : List Dt → Nat → Nat → List Dt → List Dt
  | [], _, _, out => out
  | q :: r, lo, e, out => if lo < e then runD r 0 (e - q.2.1.toNat) (segD q lo (min e q.2.1.toNat) out) else out

/-- The tokens of bytes [lo, e) of the pieces. -/
def cutT : List Dt → Nat → Nat → Nat → List Tok
  | [], _, _, _ => []
  | q :: r, j, lo, e => if lo < e then (if e ≤ q.2.1.toNat then ((toks q j).take e).drop lo else (toks q j).drop lo) ++ cutT r (j + 1) 0 (e - q.2.1.toNat) else []

/-- The pieces as the laws have them: lengths not negative, a literal as long as said. -/
def WfD (q : Dt) : Prop := 0 ≤ q.2.1 ∧ ∀ bs, q.2.2 = some bs → (bs.length : Int) = q.2.1

def totD : List Dt → Nat
  | [] => 0
  | q :: r => q.2.1.toNat + totD r

theorem toks_length_pos (q : Dt) (j : Nat) (h : 0 < q.2.1.toNat) : (toks q j).length = q.2.1.toNat := by
  unfold toks
  rw [if_neg (by intro h2; omega)]
  simp

theorem toks_length_ge (q : Dt) (j : Nat) : q.2.1.toNat ≤ (toks q j).length := by
  unfold toks
  split
  · rename_i h; simp; omega
  · simp

/-- The cut is a stretch of all tokens. -/
theorem cut_slice : ∀ (fs : List Dt) (j lo e : Nat), lo < e → e ≤ totD fs → (∀ q r, fs = q :: r → lo < q.2.1.toNat ∨ lo = 0) → cutT fs j lo e = ((toksAll fs j).take (pos fs j (e - 1) + 1)).drop lo
  | [], j, lo, e, h1, h2, _ => by simp [totD] at h2; omega
  | q :: r, j, lo, e, h1, h2, h3 => by
    rw [cutT, if_pos h1, toksAll, pos]
    have hlo := h3 q r rfl
    by_cases he : e ≤ q.2.1.toNat
    · rw [if_pos he, if_pos (by omega)]
      have hl := toks_length_pos q j (by omega)
      have hr : cutT r (j + 1) 0 (e - q.2.1.toNat) = [] := by
        have : e - q.2.1.toNat = 0 := by omega
        rw [this]
        cases r <;> simp [cutT]
      rw [hr, List.append_nil, show e - 1 + 1 = e by omega, List.take_append_of_le_length (by omega)]
    · rw [if_neg he, if_neg (by omega)]
      have hge := toks_length_ge q j
      have h2' : e - q.2.1.toNat ≤ totD r := by simp [totD] at h2; omega
      rw [cut_slice r (j + 1) 0 (e - q.2.1.toNat) (by omega) h2' (fun _ _ _ => .inr rfl), List.drop_zero]
      rw [show e - 1 - q.2.1.toNat = e - q.2.1.toNat - 1 by omega]
      rw [show (toks q j).length + pos r (j + 1) (e - q.2.1.toNat - 1) + 1 = (toks q j).length + (pos r (j + 1) (e - q.2.1.toNat - 1) + 1) by omega]
      rw [List.take_length_add_append, List.drop_append_of_le_length (by omega)]

theorem joinD_zero (ps : List Dt) (p : Dt) (h : p.2.1 = 0) : joinD ps p = ps := by simp [joinD, h]
theorem joinD_nil (p : Dt) (h : ¬ p.2.1 = 0) : joinD [] p = [p] := by simp [joinD, h]
theorem joinD_merge (qs : List Dt) (l p : Dt) (h : ¬ p.2.1 = 0) (hc : l.2.2 = none ∧ p.2.2 = none ∧ l.1 + l.2.1 = p.1) : joinD (qs ++ [l]) p = qs ++ [(l.1, l.2.1 + p.2.1, l.2.2)] := by simp [joinD, h, hc]
theorem joinD_snoc (qs : List Dt) (l p : Dt) (h : ¬ p.2.1 = 0) (hc : ¬ (l.2.2 = none ∧ p.2.2 = none ∧ l.1 + l.2.1 = p.1)) : joinD (qs ++ [l]) p = qs ++ [l] ++ [p] := by simp [joinD, h, hc]

theorem snoc_of {α : Type} (l : List α) (h : ¬ l = []) : ∃ qs x, l = qs ++ [x] := ⟨l.dropLast, l.getLast h, (List.dropLast_concat_getLast h).symm⟩

/-- joinD ends in a run that ends where the joined run ends. -/
theorem joinD_last (out : List Dt) (v c : Int) (hc : ¬ c = 0) : ∃ qs l, joinD out (v, c, none) = qs ++ [(l, v + c - l, none)] ∧ ∀ c', ¬ c' = 0 → joinD out (v, c', none) = qs ++ [(l, v + c' - l, none)] := by
  by_cases ho : out = []
  · subst ho
    refine ⟨[], v, ?_, fun c' hc' => ?_⟩
    · rw [joinD_nil _ hc, List.nil_append, show v + c - v = c by omega]
    · rw [joinD_nil _ hc', List.nil_append, show v + c' - v = c' by omega]
  · obtain ⟨qs, l, rfl⟩ := snoc_of out ho
    by_cases hm : l.2.2 = none ∧ l.1 + l.2.1 = v
    · refine ⟨qs, l.1, ?_, fun c' hc' => ?_⟩
      · rw [joinD_merge qs l _ hc ⟨hm.1, rfl, hm.2⟩, hm.1]
        simp only
        rw [show v + c - l.1 = l.2.1 + c by omega]
      · rw [joinD_merge qs l _ hc' ⟨hm.1, rfl, hm.2⟩, hm.1]
        simp only
        rw [show v + c' - l.1 = l.2.1 + c' by omega]
    · refine ⟨qs ++ [l], v, ?_, fun c' hc' => ?_⟩
      · rw [joinD_snoc qs l _ hc (fun h2 => hm ⟨h2.1, h2.2.2⟩), show v + c - v = c by omega]
      · rw [joinD_snoc qs l _ hc' (fun h2 => hm ⟨h2.1, h2.2.2⟩), show v + c' - v = c' by omega]

theorem tokStep_first (m pi : Nat) (out : List Dt) (g v s : Int) : tokStep m pi (out, g) (0, v, s) = (joinD out (v, 1, none), -1) := by
  by_cases ho : out = []
  · subst ho
    rw [joinD_nil _ (by simp)]
    simp [tokStep]
  · obtain ⟨qs, l, rfl⟩ := snoc_of out ho
    by_cases hm : l.2.2 = none ∧ l.1 + l.2.1 = v
    · rw [joinD_merge qs l _ (by simp) ⟨hm.1, rfl, hm.2⟩]
      simp [tokStep, hm]
    · rw [joinD_snoc qs l _ (by simp) (fun h2 => hm ⟨h2.1, h2.2.2⟩)]
      simp [tokStep, hm]

theorem run_fold (m pi : Nat) (out : List Dt) (v : Int) : ∀ (cnt : Nat) (g : Int), 0 < cnt → ((List.range cnt).map fun t : Nat => ((0, v + (t : Int), 0) : Tok)).foldl (tokStep m pi) (out, g) = (joinD out (v, cnt, none), -1)
  | 0, g, h => by omega
  | 1, g, _ => by
    simp only [List.range_one, List.map_cons, List.map_nil, List.foldl_cons, List.foldl_nil]
    rw [tokStep_first]
    simp
  | cnt + 2, g, _ => by
    rw [List.range_succ, List.map_append, List.foldl_append, run_fold m pi out v (cnt + 1) g (by omega)]
    simp only [List.map_cons, List.map_nil, List.foldl_cons, List.foldl_nil]
    obtain ⟨qs, l, h1, h2⟩ := joinD_last out v ((cnt + 1 : Nat) : Int) (by omega)
    rw [tokStep_first, h1, joinD_merge qs _ _ (by simp) ⟨rfl, rfl, by simp only; omega⟩]
    have h3 := h2 ((cnt + 2 : Nat) : Int) (by omega)
    rw [h3]
    simp only
    rw [show v + ((cnt + 1 : Nat) : Int) - l + 1 = v + ((cnt + 2 : Nat) : Int) - l by omega]

theorem lit_fold (m pi j : Nat) (out : List Dt) (bs : List Int) (lo : Nat) : ∀ (cnt : Nat) (g : Int), 0 < cnt → lo + cnt ≤ bs.length → ¬ (pi : Int) * ((m : Int) + 1) + j + 1 = g →
    ((List.range cnt).map fun t => ((1, bs.getD (lo + t) 0, (j : Int)) : Tok)).foldl (tokStep m pi) (out, g) = (out ++ [(0, (cnt : Int), some (sub bs lo (lo + cnt)))], (pi : Int) * ((m : Int) + 1) + j + 1)
  | 0, g, h, _, _ => by omega
  | 1, g, _, hb, hg => by
    simp only [List.range_one, List.map_cons, List.map_nil, List.foldl_cons, List.foldl_nil]
    unfold tokStep
    simp only [if_neg hg]
    have hs : sub bs lo (lo + 1) = [bs.getD lo 0] := by
      unfold sub
      rw [List.take_succ_eq_append_getElem (by omega), List.drop_append_of_le_length (by simp; omega)]
      rw [List.drop_of_length_le (by simp; omega)]
      simp [List.getD, show lo < bs.length by omega]
    rw [hs]
    simp
  | cnt + 2, g, _, hb, hg => by
    rw [List.range_succ, List.map_append, List.foldl_append, lit_fold m pi j out bs lo (cnt + 1) g (by omega) (by omega) hg]
    simp only [List.map_cons, List.map_nil, List.foldl_cons, List.foldl_nil]
    unfold tokStep
    have hs : sub bs lo (lo + (cnt + 2)) = sub bs lo (lo + (cnt + 1)) ++ [bs.getD (lo + (cnt + 1)) 0] := by
      unfold sub
      rw [show lo + (cnt + 2) = lo + (cnt + 1) + 1 by omega, List.take_succ_eq_append_getElem (by omega), List.drop_append_of_le_length (by simp; omega)]
      simp [List.getD, show lo + (cnt + 1) < bs.length by omega]
    rw [hs]
    simp
    omega

/-- One segment, token by token. -/
theorem seg_fold (m pi : Nat) (q : Dt) (j lo e : Nat) (out : List Dt) (g : Int) (hq : WfD q) (h1 : lo < e) (h3 : lo < q.2.1.toNat ∨ lo = 0) (hg : g < (pi : Int) * ((m : Int) + 1) + j + 1) :
    ∃ g', (if e ≤ q.2.1.toNat then ((toks q j).take e).drop lo else (toks q j).drop lo).foldl (tokStep m pi) (out, g) = (segD q lo (min e q.2.1.toNat) out, g') ∧ g' ≤ (pi : Int) * ((m : Int) + 1) + j + 1 := by
  obtain ⟨off, n, lit⟩ := q
  obtain ⟨hn, hl⟩ := hq
  simp only at *
  -- the tokens [lo, hi) of a piece that holds bytes
  have key : ∀ (f : Nat → Tok) (k : Nat), lo < k → (if e ≤ k then (((List.range k).map f).take e).drop lo else ((List.range k).map f).drop lo) = (List.range (min e k - lo)).map (fun t => f (lo + t)) := by
    intro f k hk
    apply List.ext_getElem?
    intro i
    by_cases he : e ≤ k
    · rw [if_pos he]
      simp only [List.getElem?_drop, List.getElem?_take, List.getElem?_map]
      by_cases hi : i < min e k - lo
      · simp [hi, show lo + i < e by omega, show lo + i < k by omega]
      · simp [hi, show ¬ lo + i < e by omega]
    · rw [if_neg he]
      simp only [List.getElem?_drop, List.getElem?_map]
      by_cases hi : i < min e k - lo
      · simp [hi, show lo + i < k by omega]
      · simp [hi, show ¬ lo + i < k by omega]
  cases lit with
  | none =>
    have ht : toks (off, n, none) j = (List.range n.toNat).map (fun t : Nat => ((0, off + (t : Int), 0) : Tok)) := by
      unfold toks
      simp [tokAt]
    rw [ht]
    by_cases hz : n.toNat = 0
    · refine ⟨g, ?_, by omega⟩
      have hlo : lo = 0 := by omega
      subst hlo
      rw [hz, if_neg (by omega)]
      simp [segD, joinD]
    · refine ⟨-1, ?_, by have : (0 : Int) ≤ (pi : Int) * ((m : Int) + 1) := Int.mul_nonneg (by omega) (by omega); omega⟩
      rw [key _ _ (by omega)]
      have h5 := run_fold m pi out (off + lo) (min e n.toNat - lo) g (by omega)
      have e5 : (fun t : Nat => ((0, off + ((lo + t : Nat) : Int), 0) : Tok)) = fun t : Nat => ((0, off + lo + (t : Int), 0) : Tok) := by funext t; simp; omega
      rw [e5, h5]
      simp only [segD]
      congr 4
      omega
  | some bs =>
    have hbl := hl bs rfl
    by_cases hz : n = 0
    · subst hz
      have ht : toks (off, 0, some bs) j = [(2, 0, (j : Int))] := by simp [toks]
      have hlo : lo = 0 := by omega
      subst hlo
      refine ⟨(pi : Int) * ((m : Int) + 1) + j + 1, ?_, by omega⟩
      rw [ht]
      have hne : ¬ (pi : Int) * ((m : Int) + 1) + j + 1 = g := by omega
      simp [tokStep, segD, sub, hne, show ¬ e = 0 by omega]
    · have ht : toks (off, n, some bs) j = (List.range n.toNat).map (fun t => ((1, bs.getD t 0, (j : Int)) : Tok)) := by
        unfold toks
        simp [tokAt, hz]
      refine ⟨(pi : Int) * ((m : Int) + 1) + j + 1, ?_, by omega⟩
      rw [ht, key _ _ (by omega), lit_fold m pi j out bs lo (min e n.toNat - lo) g (by omega) (by omega) (by omega)]
      simp only [segD]
      rw [show lo + (min e n.toNat - lo) = min e n.toNat by omega, show ((min e n.toNat - lo : Nat) : Int) = ((min e n.toNat : Nat) : Int) - (lo : Int) by omega]

theorem fold_cut (m pi : Nat) : ∀ (fs : List Dt) (j lo e : Nat) (out : List Dt) (g : Int), (∀ q ∈ fs, WfD q) → lo < e → e ≤ totD fs → (∀ q r, fs = q :: r → lo < q.2.1.toNat ∨ lo = 0) → g < (pi : Int) * ((m : Int) + 1) + j + 1 →
    ∃ g', (cutT fs j lo e).foldl (tokStep m pi) (out, g) = (runD fs lo e out, g') ∧ g' < (pi : Int) * ((m : Int) + 1) + (j + fs.length : Nat) + 1
  | [], j, lo, e, out, g, _, h1, h2, _, _ => by simp [totD] at h2; omega
  | q :: r, j, lo, e, out, g, hw, h1, h2, h3, hg => by
    obtain ⟨g1, hs, hg1⟩ := seg_fold m pi q j lo e out g (hw q (by simp)) h1 (h3 q r rfl) hg
    rw [cutT, if_pos h1, List.foldl_append, hs, runD, if_pos h1]
    by_cases he : 0 < e - q.2.1.toNat
    · have h2' : e - q.2.1.toNat ≤ totD r := by simp [totD] at h2; omega
      obtain ⟨g2, hr, hg2⟩ := fold_cut m pi r (j + 1) 0 (e - q.2.1.toNat) (segD q lo (min e q.2.1.toNat) out) g1 (fun x hx => hw x (by simp [hx])) he h2' (fun _ _ _ => .inr rfl) (by push_cast; omega)
      refine ⟨g2, hr, ?_⟩
      have : j + 1 + r.length = j + (q :: r).length := by simp; omega
      rw [this] at hg2
      exact hg2
    · have hz : e - q.2.1.toNat = 0 := by omega
      rw [hz]
      refine ⟨g1, ?_, ?_⟩
      · cases r <;> simp [cutT, runD]
      · simp; omega
end Go.Proofs.Qxb6617398a
