/-
  The walks of lineStarts, ZZLineStarts, sameInts.
-/
import Derived.Test.Qxb6617398aRows
import Derived.Test.Qxb6617398aBase
namespace Go.Proofs.Qxb6617398a
open Go.RowKit

theorem info3 : (Try.prog.info? 3).map (fun i => (i.zero, i.size, i.bytes)) = some (some (.int .i64 0), 1, 8) := by kernel_rfl

/-- Where lines end: behind each newline. -/
def nl : List Int → Int → List Int
  | [], _ => []
  | c :: r, i => if c = 10 then (i + 1) :: nl r (i + 1) else nl r (i + 1)

/-- What lineStarts answers, but for the last. -/
def starts (bs : List Int) (k : Nat) : List Int := 0 :: (nl (bs.take k) 0).filter (fun x => decide (x < bs.length))

def lineStarts (bs : List Int) : List Int := starts bs bs.length ++ [(bs.length : Int)]

theorem nl_snoc (c : Int) : ∀ (A : List Int) (i : Int), nl (A ++ [c]) i = nl A i ++ if c = 10 then [i + A.length + 1] else []
  | [], i => by simp [nl]
  | a :: A, i => by
    rw [List.cons_append, nl, nl_snoc c A (i + 1), nl]
    have : i + 1 + (A.length : Int) + 1 = i + ((a :: A).length : Int) + 1 := by simp; omega
    rw [this]
    split <;> simp

theorem starts_snoc (bs : List Int) (k : Nat) (h : k < bs.length) : starts bs (k + 1) = starts bs k ++ if bs.getD k 0 = 10 ∧ k + 1 < bs.length then [(k : Int) + 1] else [] := by
  unfold starts
  rw [List.take_succ_eq_append_getElem h, nl_snoc, List.filter_append, show bs.getD k 0 = bs[k] by simp [List.getD, h]]
  have hl : ((bs.take k).length : Int) = k := by simp; omega
  rw [hl, Int.zero_add]
  by_cases h1 : bs[k] = 10
  · by_cases h2 : k + 1 < bs.length
    · simp [h1, h2, show (k : Int) + 1 < bs.length by omega]
    · simp [h1, h2, show ¬ (k : Int) + 1 < bs.length by omega]
  · simp [h1]

theorem starts_len (bs : List Int) : ∀ k, k ≤ bs.length → (starts bs k).length ≤ k + 1
  | 0, _ => by simp [starts, nl]
  | k + 1, h => by
    have := starts_len bs k (by omega)
    rw [starts_snoc bs k (by omega), List.length_append]
    split <;> simp <;> omega

set_option maxRecDepth 100000 in
set_option maxHeartbeats 1000000 in
theorem lineStarts_any (bs : List Int) (v : Value) (w : World) (hv : IsInts .u8 w v bs) (hlen : bs.length ≤ 524288) :
    Calls Try.prog 30 #[v] w fun e w' => ∃ v', e = .returned v' ∧ w'.ownsRow w.heap.size 3 1 v' (lineStarts bs).length ((lineStarts bs).map (Value.int .i64)) ∧ Below w.heap.size w w' := by
  have HV : Hid (IsInts .u8 w v bs) := hv
  obtain ⟨a, cap, rfl, h1, h2, -⟩ := hv
  unfold maxLen at h2
  go_enter Try.func30, Try.ntmps30
  go_wp2
  go_loopw [3, 9] (fun s i wr => ∃ k : Nat, k ≤ bs.length ∧ i = .int .i64 k ∧ wr.ownsRow w.heap.size 3 1 s (starts bs k).length ((starts bs k).map (Value.int .i64)) ∧ Below w.heap.size w wr)
    (fun _ i _ => bs.length - (intOf i).toNat)
  case atStart =>
    refine ⟨0, Nat.zero_le _, rfl, ⟨by simp, .inr ⟨w.heap.size, 1, #[.int .i64 0], by simp [starts, nl], Nat.le_refl _, heap_alloc_new w _, by simp [starts, nl], by unfold maxLen; omega, by simp, by simp [starts, nl]⟩⟩, (Below.refl _ _).alloc (Nat.le_refl _) _⟩
  case round =>
    obtain ⟨k, hk, rfl, hown, hbel⟩ := hrel
    have hsl := starts_len bs k hk
    by_cases hlt : k < bs.length
    · obtain ⟨b, off, rfl, hc⟩ := HV.out.cell hlt
      have hc' : wr.cell? ⟨b, off + k, none⟩ = some (.int .u8 (bs.getD k 0)) := by rw [hbel.cell (p := ⟨b, _, none⟩) (World.block_lt_of_cell? _ _ hc)]; exact hc
      have hsn := starts_snoc bs k hlt
      generalize bs.getD k 0 = c at *
      have HS : Hid (starts bs (k + 1) = starts bs k ++ if c = 10 ∧ k + 1 < bs.length then [(k : Int) + 1] else []) := hsn
      clear hsn hc
      generalize hxs : starts bs k = xs at *
      clear hxs
      by_cases hcc : c = 10
      · subst hcc
        by_cases hk1 : k + 1 < bs.length
        · go_wp2_with (at_builtin; refine wpList_app wr rfl _ _ 24 rfl Try.underlying24 info3 rfl (by decide) rfl hown [.int .i64 (k + 1)] 3 rfl rfl (by simp [Value.oneCell']) (by omega) (by decide) hbel.size ?_)
          intro g cp w1 hown1 hb1 _
          go_wp2
          go_roundw
          case rel =>
            refine ⟨k + 1, hlt, by go_num, ?_, hbel.trans hb1⟩
            rw [HS.out, if_pos (by simp [hk1])]
            simpa using hown1
          case measure => simp [intOf]; omega
        · go_wp2
          go_roundw
          case rel =>
            refine ⟨k + 1, hlt, by go_num, ?_, hbel⟩
            rw [HS.out, if_neg (fun h => hk1 h.2)]
            simpa using hown
          case measure => simp [intOf]; omega
      · have hcc' : (c == 10) = false := by simpa using hcc
        have HC : Hid (¬ c = 10) := hcc
        clear hcc
        go_wp2
        go_roundw
        case rel =>
          refine ⟨k + 1, hlt, by go_num, ?_, hbel⟩
          rw [HS.out, if_neg (fun h => HC.out h.1)]
          simpa using hown
        case measure => simp [intOf]; omega
    · have hkeq : k = bs.length := by omega
      subst hkeq
      go_wp2_with (at_builtin; refine wpList_app wr rfl _ _ 24 rfl Try.underlying24 info3 rfl (by decide) rfl hown [.int .i64 bs.length] 3 rfl rfl (by simp [Value.oneCell']) (by omega) (by decide) hbel.size ?_)
      intro g cp w1 hown1 hb1 _
      go_wp2
      go_ret
      refine ⟨_, rfl, ?_, hbel.trans hb1⟩
      unfold lineStarts
      simpa using hown1

set_option maxHeartbeats 400000 in
theorem zzLineStarts_any (bs : List Int) (v : Value) (w : World) (hv : IsInts .u8 w v bs) (hlen : bs.length ≤ 524288) :
    Calls Try.prog 8 #[v] w fun e w' => ∃ v', e = .returned v' ∧ w'.ownsRow w.heap.size 3 1 v' (lineStarts bs).length ((lineStarts bs).map (Value.int .i64)) ∧ Below w.heap.size w w' := by
  have HV : Hid (IsInts .u8 w v bs) := hv
  clear hv
  go_enter Try.func8, Try.ntmps8
  go_wp2_with fail
  refine (lineStarts_any bs v _ HV.out hlen).mono ?_
  rintro e w' ⟨v', rfl, hown, hb⟩
  go_wp2
  go_ret
  exact ⟨_, rfl, hown, hb⟩

set_option maxRecDepth 100000 in
set_option maxHeartbeats 1000000 in
theorem sameInts_any (xs ys : List Int) (x y : Value) (w : World) (hx : IsInts .i64 w x xs) (hy : IsInts .i64 w y ys) (he : xs = ys) :
    Calls Try.prog 9 #[x, y] w fun e w' => e = .returned (.bool true) ∧ Below w.heap.size w w' := by
  subst he
  have HX : Hid (IsInts .i64 w x xs) := hx
  have HY : Hid (IsInts .i64 w y xs) := hy
  obtain ⟨a, cap, rfl, h1, h2, -⟩ := hx
  obtain ⟨a2, cap2, rfl, h3, h4, -⟩ := hy
  unfold maxLen at h2 h4
  go_enter Try.func9, Try.ntmps9
  go_wp2
  go_loopw [5] (fun i wr => ∃ k : Nat, k ≤ xs.length ∧ i = .int .i64 k ∧ Below w.heap.size w wr) (fun i _ => xs.length - (intOf i).toNat)
  case atStart => exact ⟨0, Nat.zero_le _, rfl, Below.refl _ _⟩
  case round =>
    obtain ⟨k, hk, rfl, hbel⟩ := hrel
    by_cases hlt : k < xs.length
    · obtain ⟨b, off, rfl, hc⟩ := HX.out.cell hlt
      obtain ⟨b2, off2, rfl, hd⟩ := HY.out.cell hlt
      have hc' : wr.cell? ⟨b, off + k, none⟩ = some (.int .i64 (xs.getD k 0)) := by rw [hbel.cell (p := ⟨b, _, none⟩) (World.block_lt_of_cell? _ _ hc)]; exact hc
      have hd' : wr.cell? ⟨b2, off2 + k, none⟩ = some (.int .i64 (xs.getD k 0)) := by rw [hbel.cell (p := ⟨b2, _, none⟩) (World.block_lt_of_cell? _ _ hd)]; exact hd
      generalize xs.getD k 0 = c at *
      clear hc hd
      go_wp2
      go_region
      go_wp2
      go_roundw
      case rel => exact ⟨k + 1, hlt, by go_num, hbel.drew⟩
      case measure => simp [intOf]; omega
    · go_wp2
      go_ret
      exact ⟨rfl, hbel⟩
end Go.Proofs.Qxb6617398a
