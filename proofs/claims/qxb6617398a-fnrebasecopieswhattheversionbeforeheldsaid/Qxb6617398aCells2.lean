/-
  The walks of cellsOfRuns, cellsOfPieces, sameCells.
-/
import Derived.Test.Qxb6617398aCells
namespace Go.Proofs.Qxb6617398a
open Go.RowKit

theorem grown_of_below {w w' : World} (h : Below w.heap.size w w') : w.grownBy w' none := ⟨h.os, h.tape, h.output, h.size, fun k hk _ => h.block k hk⟩
theorem OwnC.below {w w' : World} {base : Nat} {v : Value} {n : Nat} {cs : List Cl} (h : OwnC w base v n cs) (hb : Below w.heap.size w w') : OwnC w' base v n cs :=
  ⟨h.1, h.2.kept (grown_of_below hb) (by cases v.ownBlock <;> simp)⟩
theorem OwnP.below {e : TypeId} {w w' : World} {base : Nat} {v : Value} {n : Nat} {ps : List Pc} (h : OwnP e w base v n ps) (hb : Below w.heap.size w w') : OwnP e w' base v n ps :=
  ⟨h.1, h.2.kept (grown_of_below hb) (by cases v.ownBlock <;> simp)⟩

/-- The bytes of a list of pieces. -/
def bytesOf (ps : List Pc) : List Cl := ps.flatMap Pc.bytes

theorem bytes_length (p : Pc) : p.bytes.length = p.n.toNat := by simp [Pc.bytes, cellsAt]
theorem bytesOf_append (ps qs : List Pc) : bytesOf (ps ++ qs) = bytesOf ps ++ bytesOf qs := by simp [bytesOf]
theorem take_snocP (ps : List Pc) (k : Nat) (h : k < ps.length) : ps.take (k + 1) = ps.take k ++ [ps.getD k Pc.nil] := by
  rw [List.take_succ_eq_append_getElem h]
  simp [List.getD, h]
theorem bytesOf_succ (ps : List Pc) (k : Nat) (h : k < ps.length) : bytesOf (ps.take (k + 1)) = bytesOf (ps.take k) ++ (ps.getD k Pc.nil).bytes := by
  rw [take_snocP ps k h, bytesOf_append]
  simp [bytesOf]
theorem bytesOf_take_le (ps : List Pc) (k : Nat) : (bytesOf (ps.take k)).length ≤ (bytesOf ps).length := by
  have : bytesOf ps = bytesOf (ps.take k) ++ bytesOf (ps.drop k) := by rw [← bytesOf_append, List.take_append_drop]
  rw [this, List.length_append]; omega
theorem getD_memP (ps : List Pc) (k : Nat) (h : k < ps.length) : ps.getD k Pc.nil ∈ ps := by simp [List.getD, h]

set_option maxRecDepth 100000 in
set_option maxHeartbeats 1000000 in
theorem cellsOfRuns_any (rs : List Pc) (v : Value) (w : World) (hv : IsPcs w v rs) (hl : Lits w rs) (hwf : ∀ p ∈ rs, WF p) (htot : (bytesOf rs).length ≤ 131072) :
    Calls Try.prog 19 #[v] w (CellsPost w w.heap.size (bytesOf rs)) := by
  have HV : Hid (IsPcs w v rs) := hv
  have HL : Hid (Lits w rs) := hl
  have HW : Hid (∀ p ∈ rs, WF p) := hwf
  obtain ⟨a, cap, rfl, h1, h2, -⟩ := hv
  unfold maxLen at h2
  clear hl hwf
  go_enter Try.func19, Try.ntmps19
  go_wp2
  go_loopw [3, 4] (fun v i wr => ∃ k m : Nat, k ≤ rs.length ∧ i = .int .i64 k ∧ OwnC wr w.heap.size v m (bytesOf (rs.take k)) ∧ Below w.heap.size w wr) (fun _ i _ => rs.length - (intOf i).toNat)
  case atStart => exact ⟨0, 0, Nat.zero_le _, rfl, OwnC.nil _ _, Below.refl _ _⟩
  case round =>
    obtain ⟨k, m, hk, rfl, ho, hbel⟩ := hrel
    have HO2 : Hid (OwnC wr w.heap.size u3 m (bytesOf (rs.take k))) := ho
    by_cases hlt : k < rs.length
    · obtain ⟨b, off, rfl, hc0, hc1, hc2⟩ := HV.out.cell hlt
      have hblt : b < w.heap.size := World.block_lt_of_cell? _ _ hc0
      have g0 : ∀ w2, Below w.heap.size w w2 → w2.cell? ⟨b, off + k * 3, none⟩ = some (.int .i64 (rs.getD k Pc.nil).off) := fun w2 h => by rw [h.cell (p := ⟨b, _, none⟩) hblt]; exact hc0
      have g1 : ∀ w2, Below w.heap.size w w2 → w2.cell? ⟨b, off + k * 3 + 1, none⟩ = some (.int .i64 (rs.getD k Pc.nil).n) := fun w2 h => by rw [h.cell (p := ⟨b, _, none⟩) hblt]; exact hc1
      have g2 : ∀ w2, Below w.heap.size w w2 → w2.cell? ⟨b, off + k * 3 + 2, none⟩ = some (rs.getD k Pc.nil).lv := fun w2 h => by rw [h.cell (p := ⟨b, _, none⟩) hblt]; exact hc2
      have HS : Hid (bytesOf (rs.take (k + 1)) = bytesOf (rs.take k) ++ (rs.getD k Pc.nil).bytes) := bytesOf_succ rs k hlt
      have hle := bytesOf_take_le rs (k + 1)
      rw [HS.out, List.length_append, bytes_length, ho.1] at hle
      have HWp : Hid (WF (rs.getD k Pc.nil)) := HW.out _ (getD_memP rs k hlt)
      have HLp : Hid (IsLit w (rs.getD k Pc.nil).lv (rs.getD k Pc.nil).lit) := HL.out _ (getD_memP rs k hlt)
      obtain ⟨pa, pc, hlv, -⟩ := IsLit.shape HLp.out
      have HApp : Hid (∀ w2, OwnC w2 w.heap.size u3 m (bytesOf (rs.take k)) → Below w.heap.size w w2 → Calls Try.prog 18 #[u3, .int .i64 (rs.getD k Pc.nil).off, .int .i64 (rs.getD k Pc.nil).n, (rs.getD k Pc.nil).lv] w2 (CellsPost w2 w.heap.size (bytesOf (rs.take k) ++ (rs.getD k Pc.nil).bytes))) :=
        fun w2 h1 h2 => appendCells_any _ _ m _ w2 w _ h1 h2.size (Nat.le_refl _) h2 HLp.out HWp.out (by omega)
      rw [hlv] at g2 HApp
      generalize ((rs.getD k Pc.nil).lit.getD []).length = len at *
      generalize (rs.getD k Pc.nil).bytes = pbs at *
      generalize (rs.getD k Pc.nil).off = poff at *
      generalize (rs.getD k Pc.nil).n = pn at *
      have s0 := g0 _ hbel
      have s1 := g1 _ hbel
      have s2 := g2 _ hbel
      have HG : Hid (∀ w2, Below w.heap.size w w2 → (w2.cell? ⟨b, off + k * 3, none⟩ = some (.int .i64 poff) ∧ w2.cell? ⟨b, off + k * 3 + 1, none⟩ = some (.int .i64 pn) ∧ w2.cell? ⟨b, off + k * 3 + 2, none⟩ = some (.slice pa len pc))) := fun w2 h => ⟨g0 _ h, g1 _ h, g2 _ h⟩
      clear ho hc0 hc1 hc2 g0 g1 g2 hlv HWp HLp hle
      go_wp2_with fail
      go_region_held3 (fun w' => w'.cell? ⟨b, off + k * 3, none⟩ = some (.int .i64 poff) ∧ w'.cell? ⟨b, off + k * 3 + 1, none⟩ = some (.int .i64 pn) ∧ w'.cell? ⟨b, off + k * 3 + 2, none⟩ = some (.slice pa len pc))
        (first | exact HG.out _ hbz | exact HG.out _ hbel | exact HG.out _ hbel.drew)
        (first | (go_at_call 18; refine (HApp.out wr.drew HO2.out hbel.drew).mono ?_; rintro e w2 ⟨v2, n2, rfl, ho2, hb2⟩; have hbz : Below w.heap.size w w2 := hbel.drew.trans hb2))
      have HO3 : Hid (OwnC w2 w.heap.size v2 n2 (bytesOf (rs.take k) ++ pbs)) := ho2
      clear ho2
      go_wp2_with fail
      go_roundw
      case rel => exact ⟨k + 1, n2, hlt, by go_num, by rw [HS.out]; exact HO3.out, hbz⟩
      case measure => simp [intOf]; omega
    · have hkn : k = rs.length := by omega
      subst hkn
      clear ho
      go_wp2_with fail
      go_ret
      exact CellsPost.mk (by have h7 := HO2.out; rwa [List.take_of_length_le (Nat.le_refl _)] at h7) hbel

set_option maxRecDepth 100000 in
set_option maxHeartbeats 1000000 in
theorem sameCells_any (cs : List Cl) (x y : Value) (w : World) (hx : IsCls w x cs) (hy : IsCls w y cs) :
    Calls Try.prog 20 #[x, y] w fun e w' => e = .returned (.bool true) ∧ Below w.heap.size w w' := by
  have HX : Hid (IsCls w x cs) := hx
  have HY : Hid (IsCls w y cs) := hy
  obtain ⟨a, cap, rfl, h1, h2, -⟩ := hx
  obtain ⟨a2, cap2, rfl, h3, h4, -⟩ := hy
  unfold maxLen at h2 h4
  go_enter Try.func20, Try.ntmps20
  go_wp2
  go_loopw [5] (fun i wr => ∃ k : Nat, k ≤ cs.length ∧ i = .int .i64 k ∧ Below w.heap.size w wr) (fun i _ => cs.length - (intOf i).toNat)
  case atStart => exact ⟨0, Nat.zero_le _, rfl, Below.refl _ _⟩
  case round =>
    obtain ⟨k, hk, rfl, hbel⟩ := hrel
    by_cases hlt : k < cs.length
    · obtain ⟨b, off, rfl, hc, hd⟩ := HX.out.cell hlt
      obtain ⟨b2, off2, rfl, hc2, hd2⟩ := HY.out.cell hlt
      have q1 : wr.cell? ⟨b, off + k * 2, none⟩ = some (.bool (cs.getD k (false, 0)).1) := by rw [hbel.cell (p := ⟨b, _, none⟩) (World.block_lt_of_cell? _ _ hc)]; exact hc
      have q2 : wr.cell? ⟨b, off + k * 2 + 1, none⟩ = some (.int .i64 (cs.getD k (false, 0)).2) := by rw [hbel.cell (p := ⟨b, _, none⟩) (World.block_lt_of_cell? _ _ hd)]; exact hd
      have q3 : wr.cell? ⟨b2, off2 + k * 2, none⟩ = some (.bool (cs.getD k (false, 0)).1) := by rw [hbel.cell (p := ⟨b2, _, none⟩) (World.block_lt_of_cell? _ _ hc2)]; exact hc2
      have q4 : wr.cell? ⟨b2, off2 + k * 2 + 1, none⟩ = some (.int .i64 (cs.getD k (false, 0)).2) := by rw [hbel.cell (p := ⟨b2, _, none⟩) (World.block_lt_of_cell? _ _ hd2)]; exact hd2
      generalize (cs.getD k (false, 0)).1 = c1 at *
      generalize (cs.getD k (false, 0)).2 = c2 at *
      clear hc hd hc2 hd2
      have hcc : (c1 != c1) = false := by cases c1 <;> rfl
      go_wp2_with fail
      go_quiet (fail)
      go_wp2_with fail
      go_roundw
      case rel => exact ⟨k + 1, hlt, by go_num, below_drewN' hbel nq⟩
      case measure => simp [intOf]; omega
    · go_wp2_with fail
      go_ret
      exact ⟨rfl, hbel⟩

/-- What cellsOfPieces leaves. -/
def CellsPost2 (w : World) (base : Nat) (cs : List Cl) (e : Ending) (w' : World) : Prop := ∃ v' n', e = .returned (.tuple #[v', .bool true]) ∧ OwnC w' base v' n' cs ∧ Below base w w'
theorem CellsPost2.mk {w : World} {base : Nat} {cs : List Cl} {v' : Value} {w' : World} {n' : Nat} (h : OwnC w' base v' n' cs) (hb : Below base w w') : CellsPost2 w base cs (.returned (.tuple #[v', .bool true])) w' := ⟨_, _, rfl, h, hb⟩

set_option maxRecDepth 100000 in
set_option maxHeartbeats 1000000 in
theorem cellsOfPieces_any (rs : List Pc) (v : Value) (w : World) (hv : IsPcs w v rs) (hl : Lits w rs) (hwf : ∀ p ∈ rs, WF p) (htot : (bytesOf rs).length ≤ 65536) :
    Calls Try.prog 17 #[v] w (CellsPost2 w w.heap.size (bytesOf rs)) := by
  have HV : Hid (IsPcs w v rs) := hv
  have HL : Hid (Lits w rs) := hl
  have HW : Hid (∀ p ∈ rs, WF p) := hwf
  obtain ⟨a, cap, rfl, h1, h2, -⟩ := hv
  unfold maxLen at h2
  clear hl hwf
  go_enter Try.func17, Try.ntmps17
  go_wp2
  go_loopw [4, 5] (fun v i wr => ∃ k m : Nat, k ≤ rs.length ∧ i = .int .i64 k ∧ OwnC wr w.heap.size v m (bytesOf (rs.take k)) ∧ Below w.heap.size w wr) (fun _ i _ => rs.length - (intOf i).toNat)
  case atStart => exact ⟨0, 0, Nat.zero_le _, rfl, OwnC.nil _ _, Below.refl _ _⟩
  case round =>
    obtain ⟨k, m, hk, rfl, ho, hbel⟩ := hrel
    have HO2 : Hid (OwnC wr w.heap.size u4 m (bytesOf (rs.take k))) := ho
    by_cases hlt : k < rs.length
    · obtain ⟨b, off, rfl, hc0, hc1, hc2⟩ := HV.out.cell hlt
      have hblt : b < w.heap.size := World.block_lt_of_cell? _ _ hc0
      have g0 : ∀ w2, Below w.heap.size w w2 → w2.cell? ⟨b, off + k * 3, none⟩ = some (.int .i64 (rs.getD k Pc.nil).off) := fun w2 h => by rw [h.cell (p := ⟨b, _, none⟩) hblt]; exact hc0
      have g1 : ∀ w2, Below w.heap.size w w2 → w2.cell? ⟨b, off + k * 3 + 1, none⟩ = some (.int .i64 (rs.getD k Pc.nil).n) := fun w2 h => by rw [h.cell (p := ⟨b, _, none⟩) hblt]; exact hc1
      have g2 : ∀ w2, Below w.heap.size w w2 → w2.cell? ⟨b, off + k * 3 + 2, none⟩ = some (rs.getD k Pc.nil).lv := fun w2 h => by rw [h.cell (p := ⟨b, _, none⟩) hblt]; exact hc2
      have HS : Hid (bytesOf (rs.take (k + 1)) = bytesOf (rs.take k) ++ (rs.getD k Pc.nil).bytes) := bytesOf_succ rs k hlt
      have hle := bytesOf_take_le rs (k + 1)
      rw [HS.out, List.length_append, bytes_length, ho.1] at hle
      have hW := HW.out _ (getD_memP rs k hlt)
      have HWp : Hid (WF (rs.getD k Pc.nil)) := hW
      have HLp : Hid (IsLit w (rs.getD k Pc.nil).lv (rs.getD k Pc.nil).lit) := HL.out _ (getD_memP rs k hlt)
      obtain ⟨pa, pc, hlv, hpn, -⟩ := IsLit.shape HLp.out
      have HApp : Hid (∀ w2, OwnC w2 w.heap.size u4 m (bytesOf (rs.take k)) → Below w.heap.size w w2 → Calls Try.prog 18 #[u4, .int .i64 (rs.getD k Pc.nil).off, .int .i64 (rs.getD k Pc.nil).n, (rs.getD k Pc.nil).lv] w2 (CellsPost w2 w.heap.size (bytesOf (rs.take k) ++ (rs.getD k Pc.nil).bytes))) :=
        fun w2 h1 h2 => appendCells_any _ _ m _ w2 w _ h1 h2.size (Nat.le_refl _) h2 HLp.out HWp.out (by omega)
      obtain ⟨hn1, hn2, -, hn4⟩ := hW
      have hlen : (rs.getD k Pc.nil).lit.isNone = true ∨ (((rs.getD k Pc.nil).lit.getD []).length : Int) = (rs.getD k Pc.nil).n := by
        cases hh : (rs.getD k Pc.nil).lit with
        | none => exact .inl rfl
        | some bs => exact .inr (hn4 bs hh)
      rw [hlv] at g2 HApp
      generalize ((rs.getD k Pc.nil).lit.getD []).length = len at *
      generalize (rs.getD k Pc.nil).bytes = pbs at *
      generalize (rs.getD k Pc.nil).off = poff at *
      generalize (rs.getD k Pc.nil).n = pn at *
      generalize (rs.getD k Pc.nil).lit.isNone = isn at *
      have HG : Hid (∀ w2, Below w.heap.size w w2 → (w2.cell? ⟨b, off + k * 3, none⟩ = some (.int .i64 poff) ∧ w2.cell? ⟨b, off + k * 3 + 1, none⟩ = some (.int .i64 pn) ∧ w2.cell? ⟨b, off + k * 3 + 2, none⟩ = some (.slice pa len pc))) := fun w2 h => ⟨g0 _ h, g1 _ h, g2 _ h⟩
      have hm : (m : Int) + pn ≤ 65536 := by omega
      have hcs := ho.cls
      obtain ⟨ca, cc, hu4, -, -, -⟩ := hcs
      rw [ho.1] at hu4
      subst hu4
      have hne := fun (w : World) a n c => run_neq_slice_nil_any (P := Try.prog) w 22 5 a n c 0 0 Try.underlying22
      obtain ⟨s0, s1, s2⟩ := HG.out _ hbel
      clear ho hc0 hc1 hc2 g0 g1 g2 hlv HWp HLp hle hn4
      go_wp2_with fail
      refine (pieceN_any _ _ _ _ _ _).mono ?_
      rintro e w2 ⟨rfl, hb2⟩
      have hbz2 : Below w.heap.size w w2 := hbel.trans (hb2.mono hbel.size)
      obtain ⟨t0, t1, t2⟩ := HG.out _ hbz2
      clear s0 s1 s2
      go_wp2_with fail
      refine (pieceLit_any _ _ _ _ _ _).mono ?_
      rintro e w3 ⟨rfl, hb3⟩
      have hbz3 : Below w.heap.size w w3 := hbz2.trans (hb3.mono hbz2.size)
      obtain ⟨s0, s1, s2⟩ := HG.out _ hbz3
      clear t0 t1 t2
      have HO3 : Hid (OwnC w3 w.heap.size (.slice ca m cc) m (bytesOf (rs.take k))) := HO2.out.below (hb2.trans (hb3.mono hb2.size))
      have hx1 : decide (pn < 0) = false := by simp; omega
      have hx2 : decide (131072 < pn) = false := by simp; omega
      have hx3 : decide (131072 - pn < (m : Int)) = false := by simp; omega
      have HB3 : Hid (Below w.heap.size w w3) := hbz3
      have hcall : Calls Try.prog 24 #[.agg #[.int .i64 poff, .int .i64 pn, .slice pa len pc]] w3 fun e w' => e = .returned (.int .i64 poff) ∧ Below w3.heap.size w3 w' := pieceOff_any _ _ _ _ _ _
      have HC24 : Hid (Calls Try.prog 24 #[.agg #[.int .i64 poff, .int .i64 pn, .slice pa len pc]] w3 fun e w' => e = .returned (.int .i64 poff) ∧ Below w3.heap.size w3 w') := hcall
      clear hb2 hb3 hbz2 hbz3 HO2 hbel hcall
      cases isn with
      | true =>
        go_wp2_with fail
        refine HC24.out.mono ?_
        rintro e w4 ⟨rfl, hb4⟩
        go_wp2_with fail
        refine (HApp.out w4 (HO3.out.below hb4) (HB3.out.trans (hb4.mono HB3.out.size))).mono ?_
        rintro e w5 ⟨v5, n5, rfl, ho5, hb5⟩
        have HO5 : Hid (OwnC w5 w.heap.size v5 n5 (bytesOf (rs.take k) ++ pbs)) := ho5
        have HB5 : Hid (Below w.heap.size w w5) := (HB3.out.trans (hb4.mono HB3.out.size)).trans hb5
        clear ho5 hb4 hb5
        go_wp2_with fail
        go_roundw
        case rel => exact ⟨k + 1, n5, hlt, by go_num, by rw [HS.out]; exact HO5.out, HB5.out⟩
        case measure => simp [intOf]; omega
      | false =>
        have hlen2 : ((len : Int) != pn) = false := by
          rcases hlen with h | h
          · cases h
          · simp [h]
        clear hlen
        go_wp2_with fail
        refine HC24.out.mono ?_
        rintro e w4 ⟨rfl, hb4⟩
        go_wp2_with fail
        refine (HApp.out w4 (HO3.out.below hb4) (HB3.out.trans (hb4.mono HB3.out.size))).mono ?_
        rintro e w5 ⟨v5, n5, rfl, ho5, hb5⟩
        have HO5 : Hid (OwnC w5 w.heap.size v5 n5 (bytesOf (rs.take k) ++ pbs)) := ho5
        have HB5 : Hid (Below w.heap.size w w5) := (HB3.out.trans (hb4.mono HB3.out.size)).trans hb5
        clear ho5 hb4 hb5
        go_wp2_with fail
        go_roundw
        case rel => exact ⟨k + 1, n5, hlt, by go_num, by rw [HS.out]; exact HO5.out, HB5.out⟩
        case measure => simp [intOf]; omega
    · have hkn : k = rs.length := by omega
      subst hkn
      clear ho
      go_wp2_with fail
      go_ret2
      exact CellsPost2.mk (by have h7 := HO2.out; rwa [List.take_of_length_le (Nat.le_refl _)] at h7) hbel
end Go.Proofs.Qxb6617398a
