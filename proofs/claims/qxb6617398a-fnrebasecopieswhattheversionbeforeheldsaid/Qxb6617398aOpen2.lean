/-
  An argument of type []Run opened, with the range of its offsets.
-/
import Derived.Test.Qxb6617398aOpen
namespace Go.Proofs.Qxb6617398a
open Go.RowKit Go.WideShapes Go.ChangeShapes Go.Deep

section
variable {H : Type} {enc : TypeId × Value → H} {w : World}

theorem open_runs2 {fuel : Nat} {v : Value} {x : DataW H × List MemPlace} (h : DataW.trod enc Try.prog w 0 (fun _ => true) true fuel 27 [v] = some x) : ∃ rs, IsPcs w v rs ∧ Lits w rs ∧ ∀ p ∈ rs, -9223372036854775808 ≤ p.off ∧ p.off ≤ 9223372036854775807 := by
  rcases open_slice Try.underlying27 h with ⟨hcs, _⟩ | ⟨a, len, cap, m, n, D, Pl, hcs, _, hl, hm, hmm, _, hx⟩
  · simp only [List.cons.injEq, and_true] at hcs
    subst hcs
    exact ⟨[], ⟨none, 0, rfl, Nat.le_refl _, Nat.zero_le _, fun j hj => absurd hj (by simp)⟩, fun p hp => by simp at hp, fun p hp => by simp at hp⟩
  · simp only [List.cons.injEq, and_true] at hcs
    subst hcs
    simp only [if_true] at hmm
    subst hmm
    have each : ∀ i, i < m → ∃ p : Pc, w.cell? (a.add (i * 3)) = some (.int .i64 p.off) ∧ w.cell? ((a.add (i * 3)).add 1) = some (.int .i64 p.n) ∧ w.cell? ((a.add (i * 3)).add 2) = some p.lv ∧ IsLit w p.lv p.lit ∧ -9223372036854775808 ≤ p.off ∧ p.off ≤ 9223372036854775807 := by
      intro i hi
      obtain ⟨cs', h1, h2⟩ := hx i hi
      rw [cells40] at h1
      obtain ⟨_, hlen, hc⟩ := World.cells?_some h1
      obtain ⟨y0, y1, y2, mm, _, _, t0, t1, t2⟩ := trod_struct3 Try.underlying40 h2
      match cs', hlen with
      | [c0, c1, c2], _ =>
        simp only [cells3, cells22] at t0 t1 t2
        obtain ⟨z0, g0, _, gw⟩ := DataW.trod_int Try.underlying3 t0
        obtain ⟨z1, g1, _, _⟩ := DataW.trod_int Try.underlying3 t1
        simp at g0 g1
        subst g0 g1
        obtain ⟨l, hl2⟩ := open_lit (v := c2) (by simpa using t2)
        have k0 := hc 0 (by omega)
        have k1 := hc 1 (by omega)
        have k2 := hc 2 (by omega)
        exact ⟨⟨z0, z1, c2, l⟩, by simpa [Addr.add] using k0, by simpa using k1, by simpa using k2, hl2, bounds_i64 gw⟩
    have inh : Inhabited Pc := ⟨Pc.nil⟩
    obtain ⟨F, hF⟩ := choose_lt (α := Pc) each
    refine ⟨(List.range len).map F, ⟨some a, m, by simp, by simpa using hl, hm, fun j hj => ?_⟩, fun p hp => ?_, fun p hp => ?_⟩
    · have hj' : j < len := by simpa using hj
      have h0 := (hF 0 (by omega)).1
      obtain ⟨b, off, spot⟩ := a
      have hspot : spot = none := by simpa [Addr.add] using World.cell?_spot h0
      subst hspot
      obtain ⟨q0, q1, q2, _⟩ := hF j (by omega)
      rw [add_plain] at q0 q1 q2
      rw [add_plain] at q1 q2
      exact ⟨b, off, rfl, by rw [getD_range _ _ _ _ hj']; exact q0, by rw [getD_range _ _ _ _ hj']; exact q1, by rw [getD_range _ _ _ _ hj']; exact q2⟩
    · obtain ⟨j, hj, rfl⟩ := List.mem_map.1 hp
      have hj' : j < len := by simpa using hj
      exact (hF j (by omega)).2.2.2.1
    · obtain ⟨j, hj, rfl⟩ := List.mem_map.1 hp
      have hj' : j < len := by simpa using hj
      exact (hF j (by omega)).2.2.2.2
end
end Go.Proofs.Qxb6617398a
