/-
  The tokens of the version before and where each byte lies among them: how they grow, piece by piece, byte by byte.
-/
import Derived.Test.Qxb6617398aRebaseMap
namespace Go.Proofs.Qxb6617398a
open Go.RowKit

theorem toksAll_append : ∀ (a b : List Dt) (j : Nat), toksAll (a ++ b) j = toksAll a j ++ toksAll b (j + a.length)
  | [], b, j => by simp [toksAll]
  | q :: r, b, j => by
    rw [List.cons_append, toksAll, toksAll, toksAll_append r b (j + 1), List.append_assoc, List.length_cons, show j + 1 + r.length = j + (r.length + 1) by omega]

/-- Where each byte lies among the tokens. -/
def atsAll : List Dt → Nat → Nat → List Int
  | [], _, _ => []
  | q :: r, j, b => (List.range q.2.1.toNat).map (fun i => ((b + i : Nat) : Int)) ++ atsAll r (j + 1) (b + (toks q j).length)

theorem atsAll_snoc (q : Dt) : ∀ (a : List Dt) (j b : Nat), atsAll (a ++ [q]) j b = atsAll a j b ++ (List.range q.2.1.toNat).map (fun i => ((b + (toksAll a j).length + i : Nat) : Int))
  | [], j, b => by simp [atsAll, toksAll]
  | p :: r, j, b => by
    rw [List.cons_append, atsAll, atsAll, atsAll_snoc q r (j + 1), toksAll, List.length_append, List.append_assoc]
    simp only [Nat.add_assoc]

theorem atsAll_length : ∀ (a : List Dt) (j b : Nat), (atsAll a j b).length = totD a
  | [], _, _ => rfl
  | q :: r, j, b => by simp [atsAll, totD, atsAll_length r]

theorem atsAll_getD : ∀ (a : List Dt) (j b x : Nat), x < totD a → (atsAll a j b).getD x 0 = ((b + pos a j x : Nat) : Int)
  | [], _, _, x, h => by simp [totD] at h
  | q :: r, j, b, x, h => by
    rw [atsAll, pos]
    by_cases hx : x < q.2.1.toNat
    · rw [if_pos hx, getD_append_left _ _ _ (by simpa using hx)]
      simp [List.getD, hx]
    · rw [if_neg hx]
      have h2 : x - q.2.1.toNat < totD r := by simp only [totD] at h; omega
      have h3 := getD_append_right ((List.range q.2.1.toNat).map (fun i => ((b + i : Nat) : Int))) (atsAll r (j + 1) (b + (toks q j).length)) (x - q.2.1.toNat)
      rw [List.length_map, List.length_range, show q.2.1.toNat + (x - q.2.1.toNat) = x by omega] at h3
      rw [h3, atsAll_getD r (j + 1) _ _ h2, Nat.add_assoc]

theorem toksAll_length : ∀ (a : List Dt) (j : Nat), (toksAll a j).length ≤ totD a + a.length
  | [], _ => by simp [toksAll]
  | q :: r, j => by
    have := toksAll_length r (j + 1)
    have h2 : (toks q j).length ≤ q.2.1.toNat + 1 := by
      unfold toks
      split <;> simp
    simp only [toksAll, List.length_append, totD, List.length_cons]
    omega

theorem pos_lt : ∀ (a : List Dt) (j x : Nat), x < totD a → pos a j x < (toksAll a j).length
  | [], _, x, h => by simp [totD] at h
  | q :: r, j, x, h => by
    rw [pos, toksAll, List.length_append]
    by_cases hx : x < q.2.1.toNat
    · rw [if_pos hx]
      have := toks_length_ge q j
      omega
    · rw [if_neg hx]
      have := pos_lt r (j + 1) (x - q.2.1.toNat) (by simp only [totD] at h; omega)
      omega

/-- What holds of each token. -/
def TokOk (m : Nat) (t : Tok) : Prop := (t.1 = 0 ∧ 0 ≤ t.2.1 ∧ t.2.1 ≤ 2305843009213759486 ∨ t.1 = 1 ∧ 0 ≤ t.2.1 ∧ t.2.1 ≤ 255 ∨ t.1 = 2) ∧ 0 ≤ t.2.2 ∧ t.2.2 ≤ m

/-- A token as a row of three cells. -/
def tp (t : Tok) : Pc := ⟨t.1, t.2.1, .int .i64 t.2.2, none⟩

theorem tp_getD (ts : List Tok) (i : Nat) (h : i < ts.length) : (ts.map tp).getD i Pc.nil = tp (ts.getD i (0, 0, 0)) := by
  simp [List.getD, h]

/-- The tokens of the first j pieces and the first t of piece j. -/
def toksTo (fs : List Dt) (j t : Nat) : List Tok := toksAll (fs.take j) 0 ++ (List.range t).map (tokAt (fs.getD j (0, 0, none)) j)
def atsTo (fs : List Dt) (j t : Nat) : List Int := atsAll (fs.take j) 0 0 ++ (List.range t).map (fun i => (((toksAll (fs.take j) 0).length + i : Nat) : Int))

theorem toksTo_zero (fs : List Dt) (j : Nat) : toksTo fs j 0 = toksAll (fs.take j) 0 := by simp [toksTo]
theorem atsTo_zero (fs : List Dt) (j : Nat) : atsTo fs j 0 = atsAll (fs.take j) 0 0 := by simp [atsTo]
theorem toksTo_succ (fs : List Dt) (j t : Nat) : toksTo fs j (t + 1) = toksTo fs j t ++ [tokAt (fs.getD j (0, 0, none)) j t] := by
  simp [toksTo, List.range_succ]
theorem atsTo_succ (fs : List Dt) (j t : Nat) : atsTo fs j (t + 1) = atsTo fs j t ++ [((toksTo fs j t).length : Int)] := by
  simp [atsTo, toksTo, List.range_succ]
theorem take_snocD (fs : List Dt) (j : Nat) (h : j < fs.length) : fs.take (j + 1) = fs.take j ++ [fs.getD j (0, 0, none)] := by
  rw [List.take_succ_eq_append_getElem h]
  simp [List.getD, h]
theorem toksTo_next (fs : List Dt) (j : Nat) (h : j < fs.length) (hm : ¬ ((fs.getD j (0, 0, none)).2.2.isSome ∧ (fs.getD j (0, 0, none)).2.1 = 0)) : toksTo fs j (fs.getD j (0, 0, none)).2.1.toNat = toksTo fs (j + 1) 0 := by
  rw [toksTo_zero, take_snocD fs j h, toksAll_append, toksTo]
  have hl : (fs.take j).length = j := by simp; omega
  simp only [toksAll, List.append_nil, hl, Nat.zero_add, toks, if_neg hm]
theorem toksTo_mark (fs : List Dt) (j : Nat) (h : j < fs.length) (hm : (fs.getD j (0, 0, none)).2.2.isSome ∧ (fs.getD j (0, 0, none)).2.1 = 0) : toksTo fs (j + 1) 0 = toksTo fs j 0 ++ [(2, 0, (j : Int))] := by
  rw [toksTo_zero, toksTo_zero, take_snocD fs j h, toksAll_append]
  have hl : (fs.take j).length = j := by simp; omega
  simp only [toksAll, List.append_nil, hl, Nat.zero_add, toks, if_pos hm]
theorem atsTo_next (fs : List Dt) (j : Nat) (h : j < fs.length) : atsTo fs j (fs.getD j (0, 0, none)).2.1.toNat = atsTo fs (j + 1) 0 := by
  rw [atsTo_zero, take_snocD fs j h, atsAll_snoc, atsTo]
  simp only [Nat.zero_add]
theorem atsTo_mark (fs : List Dt) (j : Nat) (h : j < fs.length) (hm : (fs.getD j (0, 0, none)).2.1 = 0) : atsTo fs (j + 1) 0 = atsTo fs j 0 := by
  rw [← atsTo_next fs j h, hm]
  rfl
theorem totD_take_le (fs : List Dt) (j : Nat) : totD (fs.take j) ≤ totD fs := by
  have := totD_append (fs.take j) (fs.drop j)
  rw [List.take_append_drop] at this
  omega
theorem toksTo_length (fs : List Dt) (j t : Nat) (h : t ≤ 65536) : (toksTo fs j t).length ≤ totD fs + fs.length + 65536 := by
  have h1 := toksAll_length (fs.take j) 0
  have h2 := totD_take_le fs j
  simp only [toksTo, List.length_append, List.length_map, List.length_range, List.length_take] at *
  omega
theorem atsTo_length (fs : List Dt) (j t : Nat) (h : t ≤ 65536) : (atsTo fs j t).length ≤ totD fs + 65536 := by
  have h2 := totD_take_le fs j
  simp only [atsTo, List.length_append, List.length_map, List.length_range, atsAll_length]
  omega

/-- Token by token from byte O to byte O + N - 1: segment by segment. -/
theorem fold_from (m pi N : Nat) (hN : 0 < N) : ∀ (fs : List Dt) (j O : Nat) (out : List Dt) (g : Int), (∀ q ∈ fs, WfD q) → O + N ≤ totD fs → g < (pi : Int) * ((m : Int) + 1) + j + 1 →
    ∃ g', (((toksAll fs j).take (pos fs j (O + N - 1) + 1)).drop (pos fs j O)).foldl (tokStep m pi) (out, g) = (runFrom fs O N out, g') ∧ g' < (pi : Int) * ((m : Int) + 1) + (j + fs.length : Nat) + 1
  | [], j, O, out, g, _, h, _ => by simp [totD] at h; omega
  | q :: r, j, O, out, g, hw, h, hg => by
    by_cases hO : O < q.2.1.toNat
    · have h1 := cut_slice (q :: r) j O (O + N) (by omega) h (fun q' r' e => by cases e; exact .inl hO)
      have h2 : pos (q :: r) j O = O := by rw [pos, if_pos hO]
      rw [h2, ← h1, runFrom, if_pos hO]
      exact fold_cut m pi (q :: r) j O (O + N) out g hw (by omega) h (fun q' r' e => by cases e; exact .inl hO) hg
    · have h2 : pos (q :: r) j O = (toks q j).length + pos r (j + 1) (O - q.2.1.toNat) := by rw [pos, if_neg hO]
      have h3 : pos (q :: r) j (O + N - 1) = (toks q j).length + pos r (j + 1) (O - q.2.1.toNat + N - 1) := by
        rw [pos, if_neg (by omega), show O + N - 1 - q.2.1.toNat = O - q.2.1.toNat + N - 1 by omega]
      have h4 : O - q.2.1.toNat + N ≤ totD r := by simp only [totD] at h; omega
      obtain ⟨g', r1, r2⟩ := fold_from m pi N hN r (j + 1) (O - q.2.1.toNat) out g (fun x hx => hw x (by simp [hx])) h4 (by push_cast; omega)
      refine ⟨g', ?_, ?_⟩
      · rw [h2, h3, runFrom, if_neg hO, toksAll, show (toks q j).length + pos r (j + 1) (O - q.2.1.toNat + N - 1) + 1 = (toks q j).length + (pos r (j + 1) (O - q.2.1.toNat + N - 1) + 1) by omega, List.take_length_add_append, List.drop_length_add_append]
        exact r1
      · rw [show j + (q :: r).length = j + 1 + r.length by simp; omega]
        exact r2

theorem pos_mono : ∀ (a : List Dt) (j x y : Nat), x ≤ y → y < totD a → pos a j x ≤ pos a j y
  | [], _, x, y, _, h => by simp [totD] at h
  | q :: r, j, x, y, hxy, h => by
    rw [pos, pos]
    by_cases hy : y < q.2.1.toNat
    · rw [if_pos hy, if_pos (by omega)]; exact hxy
    · rw [if_neg hy]
      by_cases hx : x < q.2.1.toNat
      · rw [if_pos hx]
        have := toks_length_ge q j
        omega
      · rw [if_neg hx]
        have := pos_mono r (j + 1) (x - q.2.1.toNat) (y - q.2.1.toNat) (by omega) (by simp only [totD] at h; omega)
        omega

/-- One more token. -/
theorem drop_take_succ (ts : List Tok) (a t : Nat) (h1 : a ≤ t) (h2 : t < ts.length) : (ts.take (t + 1)).drop a = (ts.take t).drop a ++ [ts.getD t (0, 0, 0)] := by
  rw [List.take_succ_eq_append_getElem h2, List.drop_append_of_le_length (by simp; omega)]
  simp [List.getD, h2]

theorem drop_take_self (ts : List Tok) (a : Nat) : (ts.take a).drop a = [] := by
  rw [List.drop_of_length_le (by simp; omega)]

/-- The tokens are as the walk wants them. -/
theorem toksAll_ok (m : Nat) : ∀ (fs : List Pc) (j : Nat), (∀ q ∈ fs, WFr true q ∧ ∀ bs, q.lit = some bs → ∀ x ∈ bs, 0 ≤ x ∧ x ≤ 255) → j + fs.length ≤ m → ∀ t ∈ toksAll (fs.map Pc.dat) j, TokOk m t
  | [], _, _, _ => by simp [toksAll]
  | q :: r, j, h, hj => by
    intro t ht
    rw [List.map_cons, toksAll] at ht
    rcases List.mem_append.1 ht with h1 | h1
    · obtain ⟨hw, hb⟩ := h q (by simp)
      have hjm : j ≤ m := by simp at hj; omega
      unfold toks at h1
      by_cases hm : q.dat.2.2.isSome ∧ q.dat.2.1 = 0
      · rw [if_pos hm] at h1
        simp at h1
        subst h1
        exact ⟨.inr (.inr rfl), by show (0 : Int) ≤ j; omega, by show (j : Int) ≤ m; omega⟩
      · rw [if_neg hm] at h1
        obtain ⟨i, hi, rfl⟩ := List.mem_map.1 h1
        have hi' : i < q.n.toNat := by simpa [Pc.dat] using hi
        unfold tokAt
        cases hl : q.lit with
        | none =>
          have : q.dat.2.2 = none := hl
          rw [this]
          have ho := hw.2.2.2 rfl hl
          have hn := hw.2.1
          refine ⟨.inl ⟨rfl, ?_, ?_⟩, by show (0 : Int) ≤ 0; omega, by show (0 : Int) ≤ m; omega⟩
          · show 0 ≤ q.off + (i : Int); omega
          · show q.off + (i : Int) ≤ _; omega
        | some bs =>
          have : q.dat.2.2 = some bs := hl
          rw [this]
          have hbl := hw.2.2.1 bs hl
          have hx := hb bs hl (bs.getD i 0) (by simp [List.getD, show i < bs.length by omega])
          exact ⟨.inr (.inl ⟨rfl, hx.1, hx.2⟩), by show (0 : Int) ≤ j; omega, by show (j : Int) ≤ m; omega⟩
    · exact toksAll_ok m r (j + 1) (fun q hq => h q (by simp [hq])) (by simp at hj; omega) t h1
end Go.Proofs.Qxb6617398a
