/-
  The walks of the size guard on two lists and of runsWithin.
-/
import Derived.Test.Qxb6617398aMore
namespace Go.Proofs.Qxb6617398a
open Go.RowKit

set_option maxRecDepth 100000 in
set_option maxHeartbeats 1000000 in
theorem bytes26_any (rs fs : List Pc) (v u : Value) (w : World) (hv : IsPcs w v rs) (hl : Lits w rs) (hu : IsPcs w u fs) (hm : Lits w fs) : Calls Try.prog 26 #[v, u] w (AnyBool w) := by
  have HV : Hid (IsPcs w v rs) := hv
  have HL : Hid (Lits w rs) := hl
  have HU : Hid (IsPcs w u fs) := hu
  have HM : Hid (Lits w fs) := hm
  obtain ⟨a, cap, rfl, h1, h2, -⟩ := hv
  obtain ⟨a2, cap2, rfl, h3, h4, -⟩ := hu
  unfold maxLen at h2 h4
  clear hl hm
  go_enter Try.func26, Try.ntmps26
  go_wp2
  · go_ret
    exact AnyBool.mk _
  go_loop [5, 6] (fun t i => ∃ k : Nat, k ≤ rs.length ∧ i = .int .i64 k ∧ ∃ y, t = .int .i64 y) (fun _ i => rs.length - (intOf i).toNat)
  case atStart => exact ⟨0, Nat.zero_le _, rfl, _, rfl⟩
  case round =>
    obtain ⟨k, hk, rfl, y, rfl⟩ := hrel
    by_cases hlt : k < rs.length
    · obtain ⟨bb, off, rfl, hc0, hc1, hc2⟩ := HV.out.cell hlt
      obtain ⟨pa, pc, hlv, hpn, -⟩ := IsLit.shape (HL.out _ (getD_memP rs k hlt))
      rw [hlv] at hc2
      clear hlv hpn
      generalize ((rs.getD k Pc.nil).lit.getD []).length = len at *
      go_wp2_with fail
      all_goals first
        | (go_ret; exact AnyBool.mk _)
        | (go_round
           case rel => exact ⟨k + 1, hlt, by go_num, _, rfl⟩
           case measure => simp [intOf]; omega)
    · go_wp2_with fail
      all_goals first
        | (go_ret; exact AnyBool.mk _)
        | skip
      go_loop [5, 7] (fun t i => ∃ k : Nat, k ≤ fs.length ∧ i = .int .i64 k ∧ ∃ y, t = .int .i64 y) (fun _ i => fs.length - (intOf i).toNat)
      case atStart => exact ⟨0, Nat.zero_le _, rfl, _, rfl⟩
      case round =>
        obtain ⟨k', hk', rfl, y', rfl⟩ := hrel
        by_cases hlt' : k' < fs.length
        · obtain ⟨bb, off, rfl, hc0, hc1, hc2⟩ := HU.out.cell hlt'
          obtain ⟨pa, pc, hlv, hpn, -⟩ := IsLit.shape (HM.out _ (getD_memP fs k' hlt'))
          rw [hlv] at hc2
          clear hlv hpn
          generalize ((fs.getD k' Pc.nil).lit.getD []).length = len at *
          go_wp2_with fail
          all_goals first
            | (go_ret; exact AnyBool.mk _)
            | (go_round
               case rel => exact ⟨k' + 1, hlt', by go_num, _, rfl⟩
               case measure => simp [intOf]; omega)
        · go_wp2_with fail
          all_goals (go_ret; exact AnyBool.mk _)

/-- What runsWithin leaves. -/
def WithinPost (w : World) (T : Int) (rs : List Pc) (e : Ending) (w' : World) : Prop :=
  ∃ r, e = .returned (.bool r) ∧ Below w.heap.size w w' ∧ (r = true → ∀ p ∈ rs, p.lit = none → 0 < p.n → 0 ≤ p.off ∧ p.off + p.n ≤ T)

theorem WithinPost.no {w w' : World} {T : Int} {rs : List Pc} (h : Below w.heap.size w w') : WithinPost w T rs (.returned (.bool false)) w' := ⟨false, rfl, h, fun h => by cases h⟩
theorem WithinPost.yes {w w' : World} {T : Int} {rs : List Pc} (h : Below w.heap.size w w') (hr : ∀ p ∈ rs, p.lit = none → 0 < p.n → 0 ≤ p.off ∧ p.off + p.n ≤ T) : WithinPost w T rs (.returned (.bool true)) w' := ⟨true, rfl, h, fun _ => hr⟩

set_option maxRecDepth 100000 in
set_option maxHeartbeats 1000000 in
theorem within_any (rs : List Pc) (v : Value) (T : Int) (w : World) (hv : IsPcs w v rs) (hl : Lits w rs) (hwf : ∀ p ∈ rs, WFr false p) (hT0 : 0 ≤ T) (hT1 : T ≤ 65536) : Calls Try.prog 27 #[v, .int .i64 T] w (WithinPost w T rs) := by
  have HV : Hid (IsPcs w v rs) := hv
  have HL : Hid (Lits w rs) := hl
  have HW : Hid (∀ p ∈ rs, WFr false p) := hwf
  obtain ⟨a, cap, rfl, h1, h2, -⟩ := hv
  unfold maxLen at h2
  clear hl hwf
  have hnil := fun (w : World) a n c => Lib.run_eql_slice_nil (P := Try.prog) w 22 5 a n c 0 0 Try.underlying22
  go_enter Try.func27, Try.ntmps27
  go_wp2
  go_loopw [5] (fun i wr => ∃ k : Nat, k ≤ rs.length ∧ i = .int .i64 k ∧ Below w.heap.size w wr ∧ ∀ p ∈ rs.take k, p.lit = none → 0 < p.n → 0 ≤ p.off ∧ p.off + p.n ≤ T) (fun i _ => rs.length - (intOf i).toNat)
  case atStart => exact ⟨0, Nat.zero_le _, rfl, Below.refl _ _, by simp⟩
  case round =>
    obtain ⟨k, hk, rfl, hbel, hall⟩ := hrel
    have HA : Hid (∀ p ∈ rs.take k, p.lit = none → 0 < p.n → 0 ≤ p.off ∧ p.off + p.n ≤ T) := hall
    clear hall
    by_cases hlt : k < rs.length
    · obtain ⟨b, off, rfl, hc0, hc1, hc2⟩ := HV.out.cell hlt
      have hblt : b < w.heap.size := World.block_lt_of_cell? _ _ hc0
      obtain ⟨pa, pc, hlv, hpn, -⟩ := IsLit.shape (HL.out _ (getD_memP rs k hlt))
      rw [hlv] at hc2
      have d0 : wr.cell? ⟨b, off + k * 3, none⟩ = some (.int .i64 (rs.getD k Pc.nil).off) := by rw [hbel.cell (p := ⟨b, _, none⟩) hblt]; exact hc0
      have d1 : wr.cell? ⟨b, off + k * 3 + 1, none⟩ = some (.int .i64 (rs.getD k Pc.nil).n) := by rw [hbel.cell (p := ⟨b, _, none⟩) hblt]; exact hc1
      have d2 : wr.cell? ⟨b, off + k * 3 + 2, none⟩ = some (.slice pa ((rs.getD k Pc.nil).lit.getD []).length pc) := by rw [hbel.cell (p := ⟨b, _, none⟩) hblt]; exact hc2
      have hwp := HW.out _ (getD_memP rs k hlt)
      have hn0 := hwp.1
      have hn1 := hwp.2.1
      have HS : Hid (((rs.getD k Pc.nil).lit.isNone = true → 0 < (rs.getD k Pc.nil).n → 0 ≤ (rs.getD k Pc.nil).off ∧ (rs.getD k Pc.nil).off + (rs.getD k Pc.nil).n ≤ T) → ∀ p ∈ rs.take (k + 1), p.lit = none → 0 < p.n → 0 ≤ p.off ∧ p.off + p.n ≤ T) := by
        intro h p hp
        rw [take_snocP rs k hlt] at hp
        rcases List.mem_append.1 hp with hp | hp
        · exact HA.out p hp
        · rw [List.mem_singleton.1 hp]
          intro hn
          exact h (by rw [hn]; rfl)
      clear hc0 hc1 hc2 hlv hwp
      generalize ((rs.getD k Pc.nil).lit.getD []).length = len at *
      generalize (rs.getD k Pc.nil).lit.isNone = isn at *
      generalize (rs.getD k Pc.nil).off = poff at *
      generalize (rs.getD k Pc.nil).n = pn at *
      have hlt' : decide ((k : Int) < (rs.length : Int)) = true := by simp; omega
      cases isn with
      | false =>
        go_wp2_with fail
        go_quiet (fail)
        go_wp2_with fail
        go_roundw
        case rel => exact ⟨k + 1, hlt, by go_num, below_drewN' hbel nq, HS.out (fun h => by cases h)⟩
        case measure => simp [intOf]; omega
      | true =>
        by_cases hp : 0 < pn
        · have hp' : decide (0 < pn) = true := by simpa using hp
          by_cases ho : poff < 0
          · have ho' : decide (poff < 0) = true := by simpa using ho
            go_wp2_with fail
            go_quiet (fail)
            go_wp2_with fail
            go_ret
            exact WithinPost.no (below_drewN' hbel nq)
          · have ho' : decide (poff < 0) = false := by simpa using ho
            by_cases hq : T - pn < poff
            · have hq' : decide (T - pn < poff) = true := by simpa using hq
              go_wp2_with fail
              go_quiet (fail)
              go_wp2_with fail
              go_ret
              exact WithinPost.no (below_drewN' hbel nq)
            · have hq' : decide (T - pn < poff) = false := by simpa using hq
              go_wp2_with fail
              go_quiet (fail)
              go_wp2_with fail
              go_roundw
              case rel => exact ⟨k + 1, hlt, by go_num, below_drewN' hbel nq, HS.out (fun _ _ => by omega)⟩
              case measure => simp [intOf]; omega
        · have hp' : decide (0 < pn) = false := by simpa using hp
          go_wp2_with fail
          go_quiet (fail)
          go_wp2_with fail
          go_roundw
          case rel => exact ⟨k + 1, hlt, by go_num, below_drewN' hbel nq, HS.out (fun _ h => by omega)⟩
          case measure => simp [intOf]; omega
    · have hlt' : decide ((k : Int) < (rs.length : Int)) = false := by simp; omega
      have HE : Hid (rs.take k = rs) := List.take_of_length_le (by omega)
      go_wp2_with fail
      go_ret
      exact WithinPost.yes hbel (by have h9 := HA.out; rw [HE.out] at h9; exact h9)
end Go.Proofs.Qxb6617398a
