/-
  The walk of slices.BinarySearch at []int.
-/
import Derived.Test.Qxb6617398aRows
import Derived.Test.Qxb6617398aBase
namespace Go.Proofs.Qxb6617398a
open Go.RowKit

set_option maxHeartbeats 400000 in
theorem less_any (x y : Int) (w : World) : Calls Try.prog 35 #[.int .i64 x, .int .i64 y] w fun e w' => e = .returned (.bool (decide (x < y))) ∧ w' = w := by
  go_enter Try.func35, Try.ntmps35
  go_wp2
  all_goals (go_ret; exact ⟨by simp, rfl⟩)

set_option maxHeartbeats 400000 in
theorem nan_any (x : Int) (w : World) : Calls Try.prog 36 #[.int .i64 x] w fun e w' => e = .returned (.bool false) ∧ w' = w := by
  go_enter Try.func36, Try.ntmps36
  go_wp2
  go_ret
  exact ⟨by simp, rfl⟩

/-- What BinarySearch leaves. -/
def SearchPost (w : World) (xs : List Int) (T : Int) (e : Ending) (w' : World) : Prop :=
  ∃ (i : Nat) (f : Bool), e = .returned (.tuple #[.int .i64 i, .bool f]) ∧ w' = w ∧ i ≤ xs.length ∧ (∀ k, k < i → xs.getD k 0 < T) ∧ ∀ k, i ≤ k → k < xs.length → T ≤ xs.getD k 0
theorem SearchPost.mk {w : World} {xs : List Int} {T : Int} {i : Nat} {f : Bool} (h : i ≤ xs.length ∧ (∀ k, k < i → xs.getD k 0 < T) ∧ ∀ k, i ≤ k → k < xs.length → T ≤ xs.getD k 0) : SearchPost w xs T (.returned (.tuple #[.int .i64 i, .bool f])) w := ⟨i, f, rfl, rfl, h⟩

set_option maxRecDepth 100000 in
set_option maxHeartbeats 1000000 in
theorem search_any (xs : List Int) (v : Value) (T : Int) (w : World) (hv : IsInts .i64 w v xs) (hs : ∀ i j, i ≤ j → j < xs.length → xs.getD i 0 ≤ xs.getD j 0) (hlen : xs.length ≤ 1048576) :
    Calls Try.prog 34 #[v, .int .i64 T] w (SearchPost w xs T) := by
  have HV : Hid (IsInts .i64 w v xs) := hv
  have HS : Hid (∀ i j, i ≤ j → j < xs.length → xs.getD i 0 ≤ xs.getD j 0) := hs
  obtain ⟨a, cap, rfl, h1, h2, -⟩ := hv
  unfold maxLen at h2
  clear hs
  go_enter Try.func34, Try.ntmps34
  go_wp2
  go_loop [7, 8] (fun iv jv => ∃ i j : Nat, i ≤ j ∧ j ≤ xs.length ∧ iv = .int .i64 i ∧ jv = .int .i64 j ∧ (∀ k, k < i → xs.getD k 0 < T) ∧ ∀ k, j ≤ k → k < xs.length → T ≤ xs.getD k 0) (fun iv jv => (intOf jv - intOf iv).toNat)
  case atStart => exact ⟨0, xs.length, Nat.zero_le _, Nat.le_refl _, rfl, rfl, fun k hk => by omega, fun k h1 h2 => by omega⟩
  case round =>
    obtain ⟨i, j, hij, hj, rfl, rfl, hlo, hhi⟩ := hrel
    have HLO : Hid (∀ k, k < i → xs.getD k 0 < T) := hlo
    have HHI : Hid (∀ k, j ≤ k → k < xs.length → T ≤ xs.getD k 0) := hhi
    clear hlo hhi
    by_cases hlt : i < j
    · obtain ⟨b, off, rfl, cm⟩ := HV.out.cell (j := (i + j) / 2) (by omega)
      generalize hy : xs.getD ((i + j) / 2) 0 = y at cm
      have Y : Hid (xs.getD ((i + j) / 2) 0 = y) := hy
      clear hy
      by_cases hyx : y < T
      · go_wp2_with (first | (go_at_call 35; refine (less_any _ _ _).mono ?_; rintro _ _ ⟨rfl, rfl⟩) | (go_at_call 36; refine (nan_any _ _).mono ?_; rintro _ _ ⟨rfl, rfl⟩))
        go_round
        case measure => simp only [intOf]; omega
        case rel =>
          refine ⟨(i + j) / 2 + 1, j, by omega, hj, by rw [show ((i : Int) + (j : Int)) / 2 + 1 = (((i + j) / 2 + 1 : Nat) : Int) by omega], rfl, fun t ht => ?_, HHI.out⟩
          have := HS.out t ((i + j) / 2) (by omega) (by omega)
          rw [Y.out] at this
          omega
      · go_wp2_with (first | (go_at_call 35; refine (less_any _ _ _).mono ?_; rintro _ _ ⟨rfl, rfl⟩) | (go_at_call 36; refine (nan_any _ _).mono ?_; rintro _ _ ⟨rfl, rfl⟩))
        go_round
        case measure => simp only [intOf]; omega
        case rel =>
          refine ⟨i, (i + j) / 2, by omega, by omega, rfl, by rw [show ((i : Int) + (j : Int)) / 2 = (((i + j) / 2 : Nat) : Int) by omega], HLO.out, fun t ht htn => ?_⟩
          have := HS.out ((i + j) / 2) t ht htn
          rw [Y.out] at this
          omega
    · have : j = i := by omega
      subst this
      by_cases hn : j < xs.length
      · obtain ⟨b, off, rfl, cl⟩ := HV.out.cell (j := j) hn
        generalize hy : xs.getD j 0 = y at cl
        by_cases hyx : y = T
        · clear hy
          go_wp2_with (first | (go_at_call 35; refine (less_any _ _ _).mono ?_; rintro _ _ ⟨rfl, rfl⟩) | (go_at_call 36; refine (nan_any _ _).mono ?_; rintro _ _ ⟨rfl, rfl⟩))
          go_ret2
          exact SearchPost.mk ⟨hj, HLO.out, HHI.out⟩
        · clear hy
          go_wp2_with (first | (go_at_call 35; refine (less_any _ _ _).mono ?_; rintro _ _ ⟨rfl, rfl⟩) | (go_at_call 36; refine (nan_any _ _).mono ?_; rintro _ _ ⟨rfl, rfl⟩))
          go_ret2
          exact SearchPost.mk ⟨hj, HLO.out, HHI.out⟩
      · go_wp2_with (first | (go_at_call 35; refine (less_any _ _ _).mono ?_; rintro _ _ ⟨rfl, rfl⟩) | (go_at_call 36; refine (nan_any _ _).mono ?_; rintro _ _ ⟨rfl, rfl⟩))
        go_ret2
        exact SearchPost.mk ⟨hj, HLO.out, HHI.out⟩
end Go.Proofs.Qxb6617398a
