/-
  An argument of type []Run opened: what is read as data is a list of runs in memory.
-/
import Derived.Test.Qxb6617398aRows
import Derived.Test.Qxb6617398aPieces
import Derived.OpenShut
import Derived.Deep.Slices
import Derived.Deep.Strs
namespace Go.Proofs.Qxb6617398a
open Go.RowKit Go.WideShapes Go.ChangeShapes Go.Deep

theorem cells40 : Try.prog.cellsOf 40 = 3 := by kernel_rfl
theorem cells3 : Try.prog.cellsOf 3 = 1 := by kernel_rfl
theorem cells22 : Try.prog.cellsOf 22 = 1 := by kernel_rfl
theorem cells5 : Try.prog.cellsOf 5 = 1 := by kernel_rfl

section
variable {H : Type} {enc : TypeId × Value → H} {w : World}

theorem getD_range {α : Type} (n : Nat) (f : Nat → α) (d : α) (i : Nat) (h : i < n) : ((List.range n).map f).getD i d = f i := by
  simp [List.getD, h]

theorem open_lit {fuel : Nat} {v : Value} {x : DataW H × List MemPlace} (h : DataW.trod enc Try.prog w 0 (fun _ => true) true fuel 22 [v] = some x) : ∃ l, IsLit w v l := by
  rcases open_ints Try.underlying22 Try.underlying5 cells5 h with ⟨hcs, _⟩ | ⟨a, l, c, zs, hcs, _, hl, hm, hz, _, hcell, hwz⟩
  · simp only [List.cons.injEq, and_true] at hcs
    subst hcs
    exact ⟨none, rfl⟩
  · simp only [List.cons.injEq, and_true] at hcs
    subst hcs
    have hz' : zs.length = c := by simpa using hz
    have hlen : (zs.take l).length = l := by simp; omega
    refine ⟨some (zs.take l), ⟨some a, c, by rw [hlen], by omega, hm, fun j hj => ?_⟩, ⟨a, c, by rw [hlen]⟩, fun b hb => ?_⟩
    · obtain ⟨b, off, rfl, hc'⟩ := ints_at hcell (by omega)
      refine ⟨b, off, rfl, ?_⟩
      rw [hc' j (by omega)]
      simp [List.getD, show j < l by omega]
    · have := hwz b (List.mem_of_mem_take hb)
      exact bounds_u8 this

theorem open_runs {fuel : Nat} {v : Value} {x : DataW H × List MemPlace} (h : DataW.trod enc Try.prog w 0 (fun _ => true) true fuel 27 [v] = some x) : ∃ rs, IsPcs w v rs ∧ Lits w rs := by
  rcases open_slice Try.underlying27 h with ⟨hcs, _⟩ | ⟨a, len, cap, m, n, D, Pl, hcs, _, hl, hm, hmm, _, hx⟩
  · simp only [List.cons.injEq, and_true] at hcs
    subst hcs
    exact ⟨[], ⟨none, 0, rfl, Nat.le_refl _, Nat.zero_le _, fun j hj => absurd hj (by simp)⟩, fun p hp => by simp at hp⟩
  · simp only [List.cons.injEq, and_true] at hcs
    subst hcs
    simp only [if_true] at hmm
    subst hmm
    have each : ∀ i, i < m → ∃ p : Pc, w.cell? (a.add (i * 3)) = some (.int .i64 p.off) ∧ w.cell? ((a.add (i * 3)).add 1) = some (.int .i64 p.n) ∧ w.cell? ((a.add (i * 3)).add 2) = some p.lv ∧ IsLit w p.lv p.lit := by
      intro i hi
      obtain ⟨cs', h1, h2⟩ := hx i hi
      rw [cells40] at h1
      obtain ⟨_, hlen, hc⟩ := World.cells?_some h1
      obtain ⟨y0, y1, y2, mm, _, _, t0, t1, t2⟩ := trod_struct3 Try.underlying40 h2
      match cs', hlen with
      | [c0, c1, c2], _ =>
        simp only [cells3, cells22] at t0 t1 t2
        obtain ⟨z0, g0, _, _⟩ := DataW.trod_int Try.underlying3 t0
        obtain ⟨z1, g1, _, _⟩ := DataW.trod_int Try.underlying3 t1
        simp at g0 g1
        subst g0 g1
        obtain ⟨l, hl2⟩ := open_lit (v := c2) (by simpa using t2)
        have k0 := hc 0 (by omega)
        have k1 := hc 1 (by omega)
        have k2 := hc 2 (by omega)
        exact ⟨⟨z0, z1, c2, l⟩, by simpa [Addr.add] using k0, by simpa using k1, by simpa using k2, hl2⟩
    have inh : Inhabited Pc := ⟨Pc.nil⟩
    obtain ⟨F, hF⟩ := choose_lt (α := Pc) each
    refine ⟨(List.range len).map F, ⟨some a, m, by simp, by simpa using hl, hm, fun j hj => ?_⟩, fun p hp => ?_⟩
    · have hj' : j < len := by simpa using hj
      have h0 := (hF 0 (by omega)).1
      obtain ⟨b, off, spot⟩ := a
      have hspot : spot = none := by simpa [Addr.add] using World.cell?_spot h0
      subst hspot
      obtain ⟨q0, q1, q2, _⟩ := hF j (by omega)
      rw [add_plain] at q0 q1 q2
      rw [add_plain] at q1 q2
      exact ⟨b, off, rfl, by rw [getD_range _ _ _ _ hj']; exact q0, by rw [getD_range _ _ _ _ hj']; exact q1, by rw [getD_range _ _ _ _ hj']; exact q2⟩
    · obtain ⟨j, hj, rfl⟩ := List.mem_map.1 hp
      have hj' : j < len := by simpa using hj
      exact (hF j (by omega)).2.2.2
end
end Go.Proofs.Qxb6617398a
