/-
  The walks of wellFormed and of the two size guards on one list.
-/
import Derived.Test.Qxb6617398aCells2
namespace Go.Proofs.Qxb6617398a
open Go.RowKit

/-- The sum of the lengths. -/
def tot (ps : List Pc) : Int := (ps.map (·.n)).sum

theorem tot_snoc (ps : List Pc) (p : Pc) : tot (ps ++ [p]) = tot ps + p.n := by simp [tot]
theorem tot_append (ps qs : List Pc) : tot (ps ++ qs) = tot ps + tot qs := by simp [tot]

/-- What wellFormed asks of a run; 'b': whether offsets are bounded. -/
def WFr (b : Bool) (p : Pc) : Prop := 0 ≤ p.n ∧ p.n ≤ 65536 ∧ (∀ bs, p.lit = some bs → (bs.length : Int) = p.n) ∧ (b = true → p.lit = none → 0 ≤ p.off ∧ p.off ≤ 2305843009213693951)

theorem wfr_iff (b : Bool) (p : Pc) : WFr b p ↔ (0 ≤ p.n ∧ p.n ≤ 65536 ∧ (p.lit.isNone = false → ((p.lit.getD []).length : Int) = p.n) ∧ (b = true → p.lit.isNone = true → 0 ≤ p.off ∧ p.off ≤ 2305843009213693951)) := by
  unfold WFr
  cases p.lit <;> simp

/-- What wellFormed leaves. -/
def WfPost (w : World) (b : Bool) (rs : List Pc) (e : Ending) (w' : World) : Prop :=
  ∃ t ok, e = .returned (.tuple #[.int .i64 t, .bool ok]) ∧ w' = w ∧ (ok = true → (∀ p ∈ rs, WFr b p) ∧ t = tot rs ∧ tot rs ≤ 65536)

theorem WfPost.no {w : World} {b : Bool} {rs : List Pc} (t : Int) : WfPost w b rs (.returned (.tuple #[.int .i64 t, .bool false])) w := ⟨t, false, rfl, rfl, fun h => by cases h⟩
theorem WfPost.yes {w : World} {b : Bool} {rs : List Pc} (t : Int) (h : (∀ p ∈ rs, WFr b p) ∧ t = tot rs ∧ tot rs ≤ 65536) : WfPost w b rs (.returned (.tuple #[.int .i64 t, .bool true])) w := ⟨t, true, rfl, rfl, fun _ => h⟩

set_option maxRecDepth 100000 in
set_option maxHeartbeats 1000000 in
theorem wellFormed_any (rs : List Pc) (v : Value) (b : Bool) (w : World) (hv : IsPcs w v rs) (hl : Lits w rs) : Calls Try.prog 11 #[v, .bool b] w (WfPost w b rs) := by
  have HV : Hid (IsPcs w v rs) := hv
  have HL : Hid (Lits w rs) := hl
  obtain ⟨a, cap, rfl, h1, h2, -⟩ := hv
  unfold maxLen at h2
  clear hl
  have hne := fun (w : World) a n c => run_neq_slice_nil_any (P := Try.prog) w 22 5 a n c 0 0 Try.underlying22
  go_enter Try.func11, Try.ntmps11
  go_wp2
  go_loop [6, 7] (fun t i => ∃ k : Nat, ∃ s : Int, k ≤ rs.length ∧ i = .int .i64 k ∧ t = .int .i64 s ∧ s = tot (rs.take k) ∧ 0 ≤ s ∧ s ≤ 65536 ∧ ∀ p ∈ rs.take k, WFr b p) (fun _ i => rs.length - (intOf i).toNat)
  case atStart => exact ⟨0, 0, Nat.zero_le _, rfl, rfl, rfl, by omega, by omega, by simp⟩
  case round =>
    obtain ⟨k, s, hk, rfl, rfl, hs, hs0, hs1, hall⟩ := hrel
    have HS : Hid (s = tot (rs.take k)) := hs
    have HA : Hid (∀ p ∈ rs.take k, WFr b p) := hall
    clear hs hall
    by_cases hlt : k < rs.length
    · obtain ⟨bb, off, rfl, hc0, hc1, hc2⟩ := HV.out.cell hlt
      obtain ⟨pa, pc, hlv, hpn, -⟩ := IsLit.shape (HL.out _ (getD_memP rs k hlt))
      have HT : Hid (rs.take (k + 1) = rs.take k ++ [rs.getD k Pc.nil]) := take_snocP rs k hlt
      rw [hlv] at hc2
      clear hlv
      have HE : Hid (WFr b (rs.getD k Pc.nil) ↔ (0 ≤ (rs.getD k Pc.nil).n ∧ (rs.getD k Pc.nil).n ≤ 65536 ∧ ((rs.getD k Pc.nil).lit.isNone = false → (((rs.getD k Pc.nil).lit.getD []).length : Int) = (rs.getD k Pc.nil).n) ∧ (b = true → (rs.getD k Pc.nil).lit.isNone = true → 0 ≤ (rs.getD k Pc.nil).off ∧ (rs.getD k Pc.nil).off ≤ 2305843009213693951))) := wfr_iff b _
      generalize ((rs.getD k Pc.nil).lit.getD []).length = len at *
      generalize (rs.getD k Pc.nil).lit.isNone = isn at *
      have HP : Hid (tot (rs.take k ++ [rs.getD k Pc.nil]) = tot (rs.take k) + (rs.getD k Pc.nil).n) := tot_snoc _ _
      generalize (rs.getD k Pc.nil).off = poff at *
      generalize (rs.getD k Pc.nil).n = pn at *
      generalize rs.getD k Pc.nil = p at *
      by_cases hn : 0 ≤ pn ∧ pn ≤ 65536
      · obtain ⟨hn1, hn2⟩ := hn
        by_cases ht : s + pn ≤ 65536
        · cases isn with
          | false =>
            by_cases hlen : (len : Int) = pn
            · have hlen' : ((len : Int) != pn) = false := by simp [hlen]
              have HLn : Hid ((len : Int) = pn) := hlen
              clear hlen
              go_wp2_with fail
              go_round
              case rel =>
                refine ⟨k + 1, _, hlt, by go_num, rfl, ?_, by omega, by omega, ?_⟩
                · rw [HT.out, HP.out, ← HS.out]
                · rw [HT.out]
                  intro q hq
                  rcases List.mem_append.1 hq with hq | hq
                  · exact HA.out q hq
                  · rw [List.mem_singleton.1 hq]
                    exact HE.out.2 ⟨hn1, hn2, fun _ => HLn.out, (fun _ h => by cases h)⟩
              case measure => simp [intOf]; omega
            · have hlen' : ((len : Int) != pn) = true := by simpa using hlen
              go_wp2_with fail
              go_ret2
              exact WfPost.no _
          | true =>
            cases b with
            | false =>
              go_wp2_with fail
              go_round
              case rel =>
                refine ⟨k + 1, _, hlt, by go_num, rfl, ?_, by omega, by omega, ?_⟩
                · rw [HT.out, HP.out, ← HS.out]
                · rw [HT.out]
                  intro q hq
                  rcases List.mem_append.1 hq with hq | hq
                  · exact HA.out q hq
                  · rw [List.mem_singleton.1 hq]
                    exact HE.out.2 ⟨hn1, hn2, (fun h => by cases h), (fun h => by cases h)⟩
              case measure => simp [intOf]; omega
            | true =>
              by_cases ho : 0 ≤ poff ∧ poff ≤ 2305843009213693951
              · obtain ⟨ho1, ho2⟩ := ho
                have hx1 : decide (poff < 0) = false := by simp; omega
                have hx2 : decide (2305843009213693951 < poff) = false := by simp; omega
                go_wp2_with fail
                go_round
                case rel =>
                  refine ⟨k + 1, _, hlt, by go_num, rfl, ?_, by omega, by omega, ?_⟩
                  · rw [HT.out, HP.out, ← HS.out]
                  · rw [HT.out]
                    intro q hq
                    rcases List.mem_append.1 hq with hq | hq
                    · exact HA.out q hq
                    · rw [List.mem_singleton.1 hq]
                      exact HE.out.2 ⟨hn1, hn2, (fun h => by cases h), fun _ _ => ⟨ho1, ho2⟩⟩
                case measure => simp [intOf]; omega
              · go_wp2_with fail
                all_goals first
                  | (go_ret2; exact WfPost.no _)
                  | (exfalso; omega)
        · go_wp2_with fail
          go_ret2
          exact WfPost.no _
      · go_wp2_with fail
        all_goals first
          | (go_ret2; exact WfPost.no _)
          | (exfalso; omega)
    · go_wp2_with fail
      go_ret2
      exact WfPost.yes _ (by
        have hA := HA.out
        have hS := HS.out
        rw [List.take_of_length_le (by omega)] at hA hS
        exact ⟨hA, hS, by omega⟩)

/-- The call returns true and writes nothing that was there. -/
def Ok (w : World) (e : Ending) (w' : World) : Prop := e = .returned (.bool true) ∧ Below w.heap.size w w'

/-- e is some bool, and the world stands. -/
def AnyBool (w : World) (e : Ending) (w' : World) : Prop := ∃ r, e = .returned (.bool r) ∧ w' = w
theorem AnyBool.mk {w : World} (r : Bool) : AnyBool w (.returned (.bool r)) w := ⟨r, rfl, rfl⟩

set_option maxRecDepth 100000 in
set_option maxHeartbeats 1000000 in
theorem bytes21_any (rs : List Pc) (v : Value) (w : World) (hv : IsPcs w v rs) (hl : Lits w rs) : Calls Try.prog 21 #[v] w (AnyBool w) := by
  have HV : Hid (IsPcs w v rs) := hv
  have HL : Hid (Lits w rs) := hl
  obtain ⟨a, cap, rfl, h1, h2, -⟩ := hv
  unfold maxLen at h2
  clear hl
  go_enter Try.func21, Try.ntmps21
  go_wp2
  · go_ret
    exact AnyBool.mk _
  go_loop [3, 4] (fun t i => ∃ k : Nat, k ≤ rs.length ∧ i = .int .i64 k ∧ ∃ y, t = .int .i64 y) (fun _ i => rs.length - (intOf i).toNat)
  case atStart => exact ⟨0, Nat.zero_le _, rfl, _, rfl⟩
  case round =>
    obtain ⟨k, hk, rfl, y, rfl⟩ := hrel
    by_cases hlt : k < rs.length
    · obtain ⟨bb, off, rfl, hc0, hc1, hc2⟩ := HV.out.cell hlt
      obtain ⟨pa, pc, hlv, hpn, -⟩ := IsLit.shape (HL.out _ (getD_memP rs k hlt))
      rw [hlv] at hc2
      clear hlv hpn
      generalize ((rs.getD k Pc.nil).lit.getD []).length = len at *
      go_wp2_with fail
      all_goals first
        | (go_ret; exact AnyBool.mk _)
        | (go_round
           case rel => exact ⟨k + 1, hlt, by go_num, _, rfl⟩
           case measure => simp [intOf]; omega)
    · go_wp2_with fail
      all_goals (go_ret; exact AnyBool.mk _)

set_option maxRecDepth 100000 in
set_option maxHeartbeats 1000000 in
theorem bytes10_any (rs : List Pc) (v : Value) (x y z : Int) (w : World) (hv : IsPcs w v rs) (hl : Lits w rs) : Calls Try.prog 10 #[v, .int .i64 x, .int .i64 y, .int .i64 z] w (AnyBool w) := by
  have HV : Hid (IsPcs w v rs) := hv
  have HL : Hid (Lits w rs) := hl
  obtain ⟨a, cap, rfl, h1, h2, -⟩ := hv
  unfold maxLen at h2
  clear hl
  go_enter Try.func10, Try.ntmps10
  go_wp2
  · go_ret
    exact AnyBool.mk _
  go_loop [9, 10] (fun t i => ∃ k : Nat, k ≤ rs.length ∧ i = .int .i64 k ∧ ∃ y, t = .int .i64 y) (fun _ i => rs.length - (intOf i).toNat)
  case atStart => exact ⟨0, Nat.zero_le _, rfl, _, rfl⟩
  case round =>
    obtain ⟨k, hk, rfl, y, rfl⟩ := hrel
    by_cases hlt : k < rs.length
    · obtain ⟨bb, off, rfl, hc0, hc1, hc2⟩ := HV.out.cell hlt
      obtain ⟨pa, pc, hlv, hpn, -⟩ := IsLit.shape (HL.out _ (getD_memP rs k hlt))
      rw [hlv] at hc2
      clear hlv hpn
      generalize ((rs.getD k Pc.nil).lit.getD []).length = len at *
      go_wp2_with fail
      all_goals first
        | (go_ret; exact AnyBool.mk _)
        | (go_round
           case rel => exact ⟨k + 1, hlt, by go_num, _, rfl⟩
           case measure => simp [intOf]; omega)
    · go_wp2_with fail
      all_goals (go_ret; exact AnyBool.mk _)
end Go.Proofs.Qxb6617398a
