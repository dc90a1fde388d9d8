/-
  The walks of nextLit, samePieces, toPieces.
-/
import Derived.Test.Qxb6617398aGuards
namespace Go.Proofs.Qxb6617398a
open Go.RowKit

/-- Does nextLit pass this run over? -/
def skips (p : Pc) : Bool := p.lit.isNone || (p.n == 0)

/-- Where nextLit stops. -/
def nextLit (qs : List Pc) (k : Nat) : Nat := k + ((qs.drop k).takeWhile skips).length

theorem nextLit_stop (qs : List Pc) (k : Nat) (h : ¬ k < qs.length) : nextLit qs k = k := by
  unfold nextLit
  rw [List.drop_of_length_le (by omega)]
  rfl
theorem nextLit_here (qs : List Pc) (k : Nat) (h : k < qs.length) (hs : skips (qs.getD k Pc.nil) = false) : nextLit qs k = k := by
  unfold nextLit
  rw [List.drop_eq_getElem_cons h]
  have e : qs.getD k Pc.nil = qs[k] := by simp [List.getD, h]
  rw [e] at hs
  rw [List.takeWhile_cons_of_neg (by rw [hs]; decide)]
  rfl
theorem nextLit_on (qs : List Pc) (k : Nat) (h : k < qs.length) (hs : skips (qs.getD k Pc.nil) = true) : nextLit qs k = nextLit qs (k + 1) := by
  unfold nextLit
  rw [List.drop_eq_getElem_cons h]
  have e : qs.getD k Pc.nil = qs[k] := by simp [List.getD, h]
  rw [e] at hs
  rw [List.takeWhile_cons_of_pos hs, List.length_cons]
  omega

set_option maxRecDepth 100000 in
set_option maxHeartbeats 1000000 in
theorem nextLit_any (rs : List Pc) (v : Value) (k0 : Nat) (w : World) (hv : IsPcs w v rs) (hl : Lits w rs) (hk0 : k0 ≤ rs.length) : Calls Try.prog 25 #[v, .int .i64 k0] w fun e w' => e = .returned (.int .i64 (nextLit rs k0)) ∧ Below w.heap.size w w' := by
  have HV : Hid (IsPcs w v rs) := hv
  have HL : Hid (Lits w rs) := hl
  obtain ⟨a, cap, rfl, h1, h2, -⟩ := hv
  unfold maxLen at h2
  clear hl
  obtain ⟨R, hR⟩ : ∃ R, R = nextLit rs k0 := ⟨_, rfl⟩
  have HR : Hid (R = nextLit rs k0) := hR
  rw [← hR]
  clear hR
  have hnil := fun (w : World) a n c => Lib.run_eql_slice_nil (P := Try.prog) w 22 5 a n c 0 0 Try.underlying22
  go_enter Try.func25, Try.ntmps25
  go_wp2_with fail
  go_loopw [1] (fun i wr => ∃ k : Nat, k ≤ rs.length ∧ i = .int .i64 k ∧ nextLit rs k = R ∧ Below w.heap.size w wr) (fun i _ => rs.length - (intOf i).toNat)
  case atStart => exact ⟨k0, hk0, rfl, HR.out.symm, Below.refl _ _⟩
  case round =>
    obtain ⟨k, hk, rfl, hR, hbel⟩ := hrel
    have HR2 : Hid (nextLit rs k = R) := hR
    clear hR
    by_cases hlt : k < rs.length
    · obtain ⟨b, off, rfl, hc0, hc1, hc2⟩ := HV.out.cell hlt
      have hblt : b < w.heap.size := World.block_lt_of_cell? _ _ hc0
      obtain ⟨pa, pc, hlv, hpn, -⟩ := IsLit.shape (HL.out _ (getD_memP rs k hlt))
      rw [hlv] at hc2
      have d1 : wr.cell? ⟨b, off + k * 3 + 1, none⟩ = some (.int .i64 (rs.getD k Pc.nil).n) := by rw [hbel.cell (p := ⟨b, _, none⟩) hblt]; exact hc1
      have d2 : wr.cell? ⟨b, off + k * 3 + 2, none⟩ = some (.slice pa ((rs.getD k Pc.nil).lit.getD []).length pc) := by rw [hbel.cell (p := ⟨b, _, none⟩) hblt]; exact hc2
      have hst := nextLit_here rs k hlt
      have hon := nextLit_on rs k hlt
      have hsk : skips (rs.getD k Pc.nil) = ((rs.getD k Pc.nil).lit.isNone || ((rs.getD k Pc.nil).n == 0)) := rfl
      generalize ((rs.getD k Pc.nil).lit.getD []).length = len at *
      generalize (rs.getD k Pc.nil).lit.isNone = isn at *
      generalize (rs.getD k Pc.nil).n = pn at *
      generalize skips (rs.getD k Pc.nil) = sk at *
      have HST : Hid (sk = false → nextLit rs k = k) := hst
      have HON : Hid (sk = true → nextLit rs k = nextLit rs (k + 1)) := hon
      have HSK : Hid (sk = (isn || (pn == 0))) := hsk
      have hlt' : decide ((k : Int) < (rs.length : Int)) = true := by simp; omega
      clear hst hon hsk hc0 hc1 hc2 hlv
      cases isn with
      | true =>
        go_wp2_with fail
        go_roundw
        case rel => exact ⟨k + 1, hlt, by go_num, by rw [← HR2.out]; exact (HON.out (by rw [HSK.out]; rfl)).symm, hbel⟩
        case measure => simp [intOf]; omega
      | false =>
        by_cases hp0 : pn = 0
        · subst hp0
          go_wp2_with fail
          go_roundw
          case rel => exact ⟨k + 1, hlt, by go_num, by rw [← HR2.out]; exact (HON.out (by rw [HSK.out]; rfl)).symm, hbel⟩
          case measure => simp [intOf]; omega
        · have hp0' : (pn == 0) = false := by simpa using hp0
          clear hp0
          go_wp2_with fail
          go_ret
          refine ⟨?_, hbel⟩
          rw [← HR2.out, HST.out (by rw [HSK.out, hp0']; rfl)]
          rfl
    · have hlt' : decide ((k : Int) < (rs.length : Int)) = false := by simp; omega
      have HE : Hid (nextLit rs k = k) := nextLit_stop rs k hlt
      go_wp2_with fail
      go_ret
      refine ⟨?_, hbel⟩
      rw [← HR2.out, HE.out]
      rfl
end Go.Proofs.Qxb6617398a
