/-
  The plain law of line starts of a joined text.
-/
import Derived.Test.Qxb6617398aLines
namespace Go.Proofs.Qxb6617398a

theorem nl_append : ∀ (A B : List Int) (i : Int), nl (A ++ B) i = nl A i ++ nl B (i + A.length)
  | [], B, i => by simp [nl]
  | a :: A, B, i => by
    rw [List.cons_append, nl, nl_append A B (i + 1), nl]
    have : i + 1 + (A.length : Int) = i + ((a :: A).length : Int) := by simp; omega
    rw [this]
    split <;> simp

theorem nl_shift (d : Int) : ∀ (B : List Int) (i : Int), nl B (i + d) = (nl B i).map (· + d)
  | [], i => rfl
  | b :: B, i => by
    have ih := nl_shift d B (i + 1)
    rw [nl, nl, show i + d + 1 = i + 1 + d by omega, ih]
    split <;> simp

theorem nl_bound : ∀ (A : List Int) (i x : Int), x ∈ nl A i → i < x ∧ x ≤ i + A.length
  | [], i, x, h => by simp [nl] at h
  | a :: A, i, x, h => by
    have ih := nl_bound A (i + 1) x
    have hl : ((a :: A).length : Int) = A.length + 1 := by simp
    rw [hl]
    rw [nl] at h
    split at h
    · rcases List.mem_cons.1 h with rfl | h
      · omega
      · have := ih h; omega
    · have := ih h; omega

theorem starts_full (bs : List Int) : starts bs bs.length = 0 :: (nl bs 0).filter (fun x : Int => decide (x < (bs.length : Int))) := by
  unfold starts
  rw [List.take_length]

theorem lineStarts_nil_left (B : List Int) : lineStarts ([] ++ B) = lineStarts B := rfl

theorem lineStarts_nil_right (A : List Int) : lineStarts (A ++ []) = lineStarts A := by rw [List.append_nil]

theorem starts_snoc_full (A' : List Int) (c : Int) : starts (A' ++ [c]) (A' ++ [c]).length = 0 :: nl A' 0 := by
  rw [starts_full, nl_append]
  have h1 : (nl A' 0).filter (fun x => decide (x < ((A' ++ [c]).length : Int))) = nl A' 0 := by
    rw [List.filter_eq_self]
    intro x hx
    have := nl_bound A' 0 x hx
    have hl : ((A' ++ [c]).length : Int) = A'.length + 1 := by simp
    rw [hl]
    exact decide_eq_true (by omega)
  have h2 : (nl [c] (0 + A'.length)).filter (fun x => decide (x < ((A' ++ [c]).length : Int))) = [] := by
    rw [List.filter_eq_nil_iff]
    intro x hx
    have := nl_bound [c] _ x hx
    have hl : ((A' ++ [c]).length : Int) = A'.length + 1 := by simp
    rw [hl, decide_eq_true_iff]
    omega
  rw [List.filter_append, h1, h2, List.append_nil]

/-- The law: where neither is empty. -/
theorem lineStarts_join (A' : List Int) (c : Int) (B : List Int) (hB : B ≠ []) :
    lineStarts ((A' ++ [c]) ++ B) = starts (A' ++ [c]) (A' ++ [c]).length ++ (if c = 10 then [((A' ++ [c]).length : Int)] else []) ++ ((lineStarts B).drop 1).map (· + ((A' ++ [c]).length : Int)) := by
  have hb : 0 < B.length := List.length_pos_iff.2 hB
  rw [starts_snoc_full]
  unfold lineStarts
  rw [starts_full, starts_full, nl_append, List.filter_append]
  have h1 : (nl (A' ++ [c]) 0).filter (fun x => decide (x < (((A' ++ [c]) ++ B).length : Int))) = nl A' 0 ++ if c = 10 then [((A' ++ [c]).length : Int)] else [] := by
    have e : nl (A' ++ [c]) 0 = nl A' 0 ++ if c = 10 then [((A' ++ [c]).length : Int)] else [] := by
      rw [nl_snoc]
      simp
    rw [← e, List.filter_eq_self]
    intro x hx
    have := nl_bound _ 0 x hx
    have hl : (((A' ++ [c]) ++ B).length : Int) = (A' ++ [c]).length + B.length := by simp only [List.length_append]; omega
    rw [hl]
    exact decide_eq_true (by omega)
  have h2 : (nl B (0 + ((A' ++ [c]).length : Int))).filter (fun x => decide (x < (((A' ++ [c]) ++ B).length : Int))) = ((nl B 0).filter (fun x => decide (x < (B.length : Int)))).map (· + ((A' ++ [c]).length : Int)) := by
    rw [nl_shift, List.filter_map]
    congr 1
    apply List.filter_congr
    intro x _
    have hl : (((A' ++ [c]) ++ B).length : Int) = (A' ++ [c]).length + B.length := by simp only [List.length_append]; omega
    simp only [Function.comp, hl]
    rw [decide_eq_decide]
    omega
  rw [h1, h2]
  have hl : (((A' ++ [c]) ++ B).length : Int) = B.length + ((A' ++ [c]).length : Int) := by simp only [List.length_append]; omega
  rw [hl]
  simp only [List.cons_append, List.drop_succ_cons, List.drop_zero, List.map_append, List.map_cons, List.map_nil, List.append_assoc]

theorem lineStarts_head (bs : List Int) : (lineStarts bs).getD 0 0 = 0 := by simp [lineStarts, starts]
theorem lineStarts_len (bs : List Int) : 2 ≤ (lineStarts bs).length := by simp [lineStarts, starts]
theorem lineStarts_len_eq (bs : List Int) : (lineStarts bs).length = (starts bs bs.length).length + 1 := by simp [lineStarts]
theorem lineStarts_last (bs : List Int) : (lineStarts bs).getD ((lineStarts bs).length - 1) 0 = bs.length := by
  unfold lineStarts
  simp [List.getD]
theorem lineStarts_max (bs : List Int) : (lineStarts bs).length ≤ bs.length + 2 := by
  have := starts_len bs bs.length (Nat.le_refl _)
  rw [lineStarts_len_eq]; omega
theorem lineStarts_take (bs : List Int) : (lineStarts bs).take ((lineStarts bs).length - 1) = starts bs bs.length := by
  unfold lineStarts
  rw [List.take_append_of_le_length (by simp)]
  rw [List.take_of_length_le (by simp)]

theorem lineStarts_bound (bs : List Int) (x : Int) (h : x ∈ lineStarts bs) : 0 ≤ x ∧ x ≤ bs.length := by
  unfold lineStarts at h
  rw [starts_full] at h
  rcases List.mem_append.1 h with h | h
  · rcases List.mem_cons.1 h with rfl | h
    · omega
    · have := (List.mem_filter.1 h).1
      have := nl_bound _ _ _ this
      omega
  · have := List.mem_singleton.1 h
    omega
end Go.Proofs.Qxb6617398a
