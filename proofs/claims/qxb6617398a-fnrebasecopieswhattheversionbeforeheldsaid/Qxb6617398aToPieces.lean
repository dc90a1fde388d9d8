/-
  The walks of toPieces and samePieces.
-/
import Derived.Test.Qxb6617398aMore
namespace Go.Proofs.Qxb6617398a
open Go.RowKit

/-- Block g is a row of n pieces, of which the first are ps. -/
def PartP (w : World) (g n : Nat) (ps : List Pc) : Prop := ∃ cur : Array Value, w.heap[g]? = some (.cells cur 35 (0, 0)) ∧ cur.size = n * 3 ∧ cur.toList.take (ps.length * 3) = flat ps

theorem PartP.lt {w : World} {g n : Nat} {ps : List Pc} (h : PartP w g n ps) : g < w.heap.size := by
  obtain ⟨cur, hg, _⟩ := h
  exact (Array.getElem?_eq_some_iff.1 hg).1

theorem PartP.below {w w' : World} {g n : Nat} {ps : List Pc} (h : PartP w g n ps) (hb : Below w.heap.size w w') : PartP w' g n ps := by
  have hlt := h.lt
  obtain ⟨cur, hg, hs, ht⟩ := h
  exact ⟨cur, by rw [hb.block g hlt]; exact hg, hs, ht⟩

theorem PartP.cell {w : World} {g n : Nat} {ps : List Pc} (h : PartP w g n ps) {j : Nat} (hj : j < n * 3) : (∃ u, w.cell? ⟨g, j, none⟩ = some u) ∧ w.frozen? ⟨g, j, none⟩ = false := by
  obtain ⟨cur, hg, hs, _⟩ := h
  have hj' : j < cur.size := by omega
  refine ⟨⟨cur[j], ?_⟩, ?_⟩
  · rw [cell_of_row w g j cur 35 (0, 0) hg]
    simp [hj']
  · simp [World.frozen?, hg]

theorem take_set3 (l : List Value) (m : Nat) (x y z : Value) (h : m + 3 ≤ l.length) : (((l.set m x).set (m + 1) y).set (m + 2) z).take (m + 3) = l.take m ++ [x, y, z] := by
  apply List.ext_getElem?
  intro i
  rw [List.getElem?_take]
  by_cases hi : i < m + 3
  · rw [if_pos hi, List.getElem?_set, List.getElem?_set, List.getElem?_set]
    simp only [List.length_set]
    by_cases h2 : m + 2 = i
    · subst h2
      rw [if_pos rfl, if_pos (by omega), List.getElem?_append_right (by simp; omega), List.length_take, show m + 2 - min m l.length = 2 by omega]
      rfl
    · rw [if_neg h2]
      by_cases h1 : m + 1 = i
      · subst h1
        rw [if_pos rfl, if_pos (by omega), List.getElem?_append_right (by simp; omega), List.length_take, show m + 1 - min m l.length = 1 by omega]
        rfl
      · rw [if_neg h1]
        by_cases h0 : m = i
        · subst h0
          rw [if_pos rfl, if_pos (by omega), List.getElem?_append_right (by simp; omega), List.length_take, show m - min m l.length = 0 by omega]
          rfl
        · rw [if_neg h0, List.getElem?_append_left (by simp; omega), List.getElem?_take, if_pos (by omega)]
  · rw [if_neg hi, List.getElem?_eq_none]
    simp; omega

theorem PartP.set {w : World} {g n : Nat} {ps : List Pc} (h : PartP w g n ps) (hn : ps.length < n) (p : Pc) :
    PartP (((w.setCell ⟨g, ps.length * 3, none⟩ (.int .i64 p.off)).setCell ⟨g, ps.length * 3 + 1, none⟩ (.int .i64 p.n)).setCell ⟨g, ps.length * 3 + 2, none⟩ p.lv) g n (ps ++ [p]) := by
  obtain ⟨cur, hg, hs, ht⟩ := h
  refine ⟨((cur.setIfInBounds (ps.length * 3) (.int .i64 p.off)).setIfInBounds (ps.length * 3 + 1) (.int .i64 p.n)).setIfInBounds (ps.length * 3 + 2) p.lv, ?_, by simpa using hs, ?_⟩
  · simp only [World.setCell, Array.getElem?_modify, if_true, hg]
    rfl
  · simp only [Array.toList_setIfInBounds]
    have e : (ps ++ [p]).length * 3 = ps.length * 3 + 3 := by simp; omega
    rw [e, take_set3 _ _ _ _ _ (by simp [hs]; omega), ht, flat_append]
    rfl

theorem PartP.own {w : World} {g n base : Nat} {ps : List Pc} (h : PartP w g n ps) (hl : ps.length = n) (hb : base ≤ g) (hm : n ≤ maxLen) : OwnP 35 w base (.slice (some ⟨g, 0, none⟩) n n) n ps := by
  obtain ⟨cur, hg, hs, ht⟩ := h
  subst hl
  exact ⟨rfl, flat_length ps, .inr ⟨g, ps.length, cur, rfl, hb, hg, Nat.le_refl _, hm, hs, ht⟩⟩

theorem PartP.of_owns {w : World} {base g n : Nat} {xs : List Value} (h : w.ownsRow base 35 3 (.slice (some ⟨g, 0, none⟩) n n) n xs) : PartP w g n [] := by
  rcases h.2 with ⟨h0, _⟩ | ⟨g', cap, cur, hv, hb, hg, hn, hm, hcs, htk⟩
  · cases h0
  simp only [Value.slice.injEq, Option.some.injEq, Addr.mk.injEq, true_and, and_true] at hv
  obtain ⟨rfl, rfl⟩ := hv
  exact ⟨cur, hg, hcs, by simp [flat]⟩

set_option maxRecDepth 100000 in
set_option maxHeartbeats 1000000 in
theorem toPieces_any (rs : List Pc) (v : Value) (w : World) (hv : IsPcs w v rs) (hl : Lits w rs) (hlen : rs.length ≤ 4096) : Calls Try.prog 13 #[v] w (JoinPost w w.heap.size rs) := by
  have HV : Hid (IsPcs w v rs) := hv
  have HL : Hid (Lits w rs) := hl
  obtain ⟨a, cap, rfl, h1, h2, h3⟩ := hv
  unfold maxLen at h2
  have hnil := fun (w : World) a n c => Lib.run_eql_slice_nil (P := Try.prog) w 27 40 a n c 0 0 Try.underlying27
  cases a with
  | none =>
    have hrs : rs = [] := by
      by_cases h0 : rs = []
      · exact h0
      · obtain ⟨b, off, hab, _⟩ := h3 0 (List.length_pos_iff.2 h0)
        cases hab
    subst hrs
    clear hl h3
    simp only [List.length_nil] at *
    go_enter Try.func13, Try.ntmps13
    go_wp2_with fail
    go_ret
    exact JoinPost.mk (OwnP.nil _ _ _) (Below.refl _ _)
  | some ad =>
    clear hl h3
    go_enter Try.func13, Try.ntmps13
    go_wp2_with (at_make; refine wpList_mk _ rfl _ _ 31 rfl Try.underlying31 info35 _ rs.length rfl rfl rfl (by omega) (by decide) ?_)
    intro w1 hown1 hb1
    have HP0 : Hid (PartP w1 w.heap.size rs.length []) := PartP.of_owns hown1
    have HB1 : Hid (Below w.heap.size w w1) := hb1
    clear hown1 hb1
    go_wp2_with fail
    go_loopw [4] (fun i wr => ∃ k : Nat, k ≤ rs.length ∧ i = .int .i64 k ∧ PartP wr w.heap.size rs.length (rs.take k) ∧ Below w.heap.size w wr) (fun i _ => rs.length - (intOf i).toNat)
    case atStart => exact ⟨0, Nat.zero_le _, rfl, HP0.out, HB1.out⟩
    case round =>
      obtain ⟨k, hk, rfl, hpart, hbel⟩ := hrel
      have HP : Hid (PartP wr w.heap.size rs.length (rs.take k)) := hpart
      clear hpart
      by_cases hlt : k < rs.length
      · obtain ⟨b, off, hab, hc0, hc1, hc2⟩ := HV.out.cell hlt
        simp only [Option.some.injEq] at hab
        subst hab
        have hblt : b < w.heap.size := World.block_lt_of_cell? _ _ hc0
        obtain ⟨pa, pc, hlv, -⟩ := IsLit.shape (HL.out _ (getD_memP rs k hlt))
        have HS : Hid (∀ w2, PartP w2 w.heap.size rs.length (rs.take k) → PartP (((w2.setCell ⟨w.heap.size, k * 3, none⟩ (.int .i64 (rs.getD k Pc.nil).off)).setCell ⟨w.heap.size, k * 3 + 1, none⟩ (.int .i64 (rs.getD k Pc.nil).n)).setCell ⟨w.heap.size, k * 3 + 2, none⟩ (rs.getD k Pc.nil).lv) w.heap.size rs.length (rs.take (k + 1))) := by
          intro w2 h
          have hkl : (rs.take k).length = k := by simp; omega
          have h5 := h.set (by omega) (rs.getD k Pc.nil)
          rw [hkl] at h5
          rw [take_snocP rs k hlt]
          exact h5
        rw [hlv] at hc2 HS
        have HC : Hid (∀ w2, Below w.heap.size w w2 → (w2.cell? ⟨b, off + k * 3, none⟩ = some (.int .i64 (rs.getD k Pc.nil).off) ∧ w2.cell? ⟨b, off + k * 3 + 1, none⟩ = some (.int .i64 (rs.getD k Pc.nil).n) ∧ w2.cell? ⟨b, off + k * 3 + 2, none⟩ = some (.slice pa ((rs.getD k Pc.nil).lit.getD []).length pc))) :=
          fun w2 h => ⟨by rw [h.cell (p := ⟨b, _, none⟩) hblt]; exact hc0, by rw [h.cell (p := ⟨b, _, none⟩) hblt]; exact hc1, by rw [h.cell (p := ⟨b, _, none⟩) hblt]; exact hc2⟩
        generalize ((rs.getD k Pc.nil).lit.getD []).length = len at *
        generalize (rs.getD k Pc.nil).off = poff at *
        generalize (rs.getD k Pc.nil).n = pn at *
        obtain ⟨s0, s1, s2⟩ := HC.out _ hbel
        clear hc0 hc1 hc2 hlv
        go_wp2_with fail
        go_region_held3 (fun w' => w'.cell? ⟨b, off + k * 3, none⟩ = some (.int .i64 poff) ∧ w'.cell? ⟨b, off + k * 3 + 1, none⟩ = some (.int .i64 pn) ∧ w'.cell? ⟨b, off + k * 3 + 2, none⟩ = some (.slice pa len pc))
          (first | exact HC.out _ (((hbz2.setCell (p := ⟨w.heap.size, k * 3, none⟩) (Nat.le_refl _) _).setCell (p := ⟨w.heap.size, k * 3 + 1, none⟩) (Nat.le_refl _) _).setCell (p := ⟨w.heap.size, k * 3 + 2, none⟩) (Nat.le_refl _) _) | exact HC.out _ hbz2 | exact HC.out _ hbel | exact HC.out _ hbel.drew)
          (first
            | (go_at_call 14; refine (makePiece_any _ _ _ _ _ _).mono ?_; rintro e w2 ⟨rfl, hb2⟩; have hbz2 : Below w.heap.size w w2 := hbel.drew.trans (hb2.mono hbel.size); have hp2 : Hid (PartP w2 w.heap.size rs.length (rs.take k)) := PartP.below (w := wr.drew) HP.out hb2; obtain ⟨⟨y0, z0⟩, q0⟩ := hp2.out.cell (j := k * 3) (by omega); obtain ⟨⟨y1, z1⟩, q1⟩ := hp2.out.cell (j := k * 3 + 1) (by omega); obtain ⟨⟨y2, z2⟩, q2⟩ := hp2.out.cell (j := k * 3 + 2) (by omega)))
        have HQ : Hid (PartP (((w2.setCell ⟨w.heap.size, k * 3, none⟩ (.int .i64 poff)).setCell ⟨w.heap.size, k * 3 + 1, none⟩ (.int .i64 pn)).setCell ⟨w.heap.size, k * 3 + 2, none⟩ (.slice pa len pc)) w.heap.size rs.length (rs.take (k + 1))) := HS.out w2 hp2.out
        have HBQ : Hid (Below w.heap.size w (((w2.setCell ⟨w.heap.size, k * 3, none⟩ (.int .i64 poff)).setCell ⟨w.heap.size, k * 3 + 1, none⟩ (.int .i64 pn)).setCell ⟨w.heap.size, k * 3 + 2, none⟩ (.slice pa len pc))) :=
          ((hbz2.setCell (p := ⟨w.heap.size, k * 3, none⟩) (Nat.le_refl _) _).setCell (p := ⟨w.heap.size, k * 3 + 1, none⟩) (Nat.le_refl _) _).setCell (p := ⟨w.heap.size, k * 3 + 2, none⟩) (Nat.le_refl _) _
        generalize ((w2.setCell ⟨w.heap.size, k * 3, none⟩ (.int .i64 poff)).setCell ⟨w.heap.size, k * 3 + 1, none⟩ (.int .i64 pn)).setCell ⟨w.heap.size, k * 3 + 2, none⟩ (.slice pa len pc) = W at *
        go_wp2_with fail
        go_roundw
        case rel => exact ⟨k + 1, hlt, by go_num, HQ.out, HBQ.out⟩
        case measure => simp [intOf]; omega
      · have hkeq : k = rs.length := by omega
        subst hkeq
        go_wp2_with fail
        go_ret
        have h7 := HP.out
        rw [List.take_of_length_le (Nat.le_refl _)] at h7
        exact JoinPost.mk (h7.own rfl (Nat.le_refl _) (by unfold maxLen; omega)) hbel

set_option maxRecDepth 100000 in
set_option maxHeartbeats 1000000 in
theorem samePieces_any (ps : List Pc) (x y : Value) (w : World) (hx : IsPcs w x ps) (hy : IsPcs w y ps) (hl : Lits w ps) :
    Calls Try.prog 15 #[x, y] w fun e w' => e = .returned (.bool true) ∧ Below w.heap.size w w' := by
  have HX : Hid (IsPcs w x ps) := hx
  have HY : Hid (IsPcs w y ps) := hy
  have HL : Hid (Lits w ps) := hl
  obtain ⟨a, cap, rfl, h1, h2, -⟩ := hx
  obtain ⟨a2, cap2, rfl, h3, h4, -⟩ := hy
  unfold maxLen at h2 h4
  clear hl
  go_enter Try.func15, Try.ntmps15
  go_wp2_with fail
  go_loopw [5] (fun i wr => ∃ k : Nat, k ≤ ps.length ∧ i = .int .i64 k ∧ Below w.heap.size w wr) (fun i _ => ps.length - (intOf i).toNat)
  case atStart => exact ⟨0, Nat.zero_le _, rfl, Below.refl _ _⟩
  case round =>
    obtain ⟨k, hk, rfl, hbel⟩ := hrel
    by_cases hlt : k < ps.length
    · obtain ⟨b, off, rfl, hc0, hc1, hc2⟩ := HX.out.cell hlt
      obtain ⟨b2, off2, rfl, hd0, hd1, hd2⟩ := HY.out.cell hlt
      have hblt : b < w.heap.size := World.block_lt_of_cell? _ _ hc0
      have hblt2 : b2 < w.heap.size := World.block_lt_of_cell? _ _ hd0
      have hlp := HL.out _ (getD_memP ps k hlt)
      obtain ⟨pa, pc, hlv, -⟩ := IsLit.shape hlp
      have HLp : Hid (IsLit w (.slice pa ((ps.getD k Pc.nil).lit.getD []).length pc) (ps.getD k Pc.nil).lit) := by rw [hlv] at hlp; exact hlp
      rw [hlv] at hc2 hd2
      have e0 : wr.cell? ⟨b, off + k * 3, none⟩ = some (.int .i64 (ps.getD k Pc.nil).off) := by rw [hbel.cell (p := ⟨b, _, none⟩) hblt]; exact hc0
      have e1 : wr.cell? ⟨b, off + k * 3 + 1, none⟩ = some (.int .i64 (ps.getD k Pc.nil).n) := by rw [hbel.cell (p := ⟨b, _, none⟩) hblt]; exact hc1
      have e2 : wr.cell? ⟨b, off + k * 3 + 2, none⟩ = some (.slice pa ((ps.getD k Pc.nil).lit.getD []).length pc) := by rw [hbel.cell (p := ⟨b, _, none⟩) hblt]; exact hc2
      have d0 : wr.cell? ⟨b2, off2 + k * 3, none⟩ = some (.int .i64 (ps.getD k Pc.nil).off) := by rw [hbel.cell (p := ⟨b2, _, none⟩) hblt2]; exact hd0
      have d1 : wr.cell? ⟨b2, off2 + k * 3 + 1, none⟩ = some (.int .i64 (ps.getD k Pc.nil).n) := by rw [hbel.cell (p := ⟨b2, _, none⟩) hblt2]; exact hd1
      have d2 : wr.cell? ⟨b2, off2 + k * 3 + 2, none⟩ = some (.slice pa ((ps.getD k Pc.nil).lit.getD []).length pc) := by rw [hbel.cell (p := ⟨b2, _, none⟩) hblt2]; exact hd2
      clear hc0 hc1 hc2 hd0 hd1 hd2 hlv hlp
      generalize ((ps.getD k Pc.nil).lit.getD []).length = len at *
      generalize (ps.getD k Pc.nil).off = poff at *
      generalize (ps.getD k Pc.nil).n = pn at *
      generalize (ps.getD k Pc.nil).lit = plit at *
      have f0 := fun x : Later wr => x.cell d0
      have f1 := fun x : Later wr => x.cell d1
      have f2 := fun x : Later wr => x.cell d2
      have k0 := fun x : Later wr => x.cell e0
      have k1 := fun x : Later wr => x.cell e1
      have k2 := fun x : Later wr => x.cell e2
      have hne := Later.inh wr
      go_wp2_with fail
      refine wp_region_later (by kernel_rfl) (by kernel_rfl) ?_
      repeat (go_big_quiet_step ((first | (go_at_call 24; exact Later.calls (pieceOff_any _ _ _ _ _ _)) | (go_at_call 22; exact Later.calls (pieceN_any _ _ _ _ _ _)))))
      refine wpQuiet_nil ?_
      rintro _ ⟨x, rfl⟩
      go_wp2_with fail
      refine wp_region_laterx (by kernel_rfl) (by kernel_rfl) ?_
      repeat (go_big_quiet_step ((first | (go_at_call 23; exact Later.calls (pieceLit_any _ _ _ _ _ _)) | (go_at_call 32; rename_i y; exact Later.calls (sameLit_any plit _ _ _ (HLp.out.below (hbel.trans (y.below.mono hbel.size))) (HLp.out.below (hbel.trans (y.below.mono hbel.size))))))))
      refine wpQuiet_nil ?_
      rintro _ ⟨z, rfl⟩
      go_wp2_with fail
      go_roundw
      case rel => exact ⟨k + 1, hlt, by go_num, hbel.trans (z.below.mono hbel.size)⟩
      case measure => simp [intOf]; omega
    · go_wp2_with fail
      go_ret
      exact ⟨rfl, hbel⟩
end Go.Proofs.Qxb6617398a
