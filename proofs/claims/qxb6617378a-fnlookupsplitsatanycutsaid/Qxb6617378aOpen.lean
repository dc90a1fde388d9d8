/-
  The argument 'levels' opened: what is read as data is a list of levels in memory.
-/
import Derived.Test.Qxb6617378aChain
import Derived.OpenShut
import Derived.Deep.Slices
namespace Go.Proofs.Qxb6617378a
open Go.RowKit Go.WideShapes Go.ChangeShapes Go.Deep

theorem cells36 : Try.prog.cellsOf 36 = 2 := by kernel_rfl
theorem cells35 : Try.prog.cellsOf 35 = 1 := by kernel_rfl
theorem cells9 : Try.prog.cellsOf 9 = 1 := by kernel_rfl

section
variable {H : Type} {enc : TypeId × Value → H} {w : World}

/-- The slots of a list by an index function. -/
theorem getD_ofFn {α : Type} (n : Nat) (f : Nat → α) (d : α) (i : Nat) (h : i < n) : ((List.range n).map f).getD i d = f i := by
  simp [List.getD, h]

theorem open_pairs {fuel : Nat} {v : Value} {x : DataW H × List MemPlace} (h : DataW.trod enc Try.prog w 0 (fun _ => true) true fuel 35 [v] = some x) : ∃ ps, IsPairs w v ps := by
  rcases open_slice Try.underlying35 h with ⟨hcs, _⟩ | ⟨a, len, cap, m, n, D, Pl, hcs, _, hl, hm, hmm, _, hx⟩
  · simp only [List.cons.injEq, and_true] at hcs
    subst hcs
    exact ⟨[], none, 0, rfl, Nat.le_refl _, Nat.zero_le _, fun j hj => absurd hj (by simp)⟩
  · simp only [List.cons.injEq, and_true] at hcs
    subst hcs
    simp only [if_true] at hmm
    subst hmm
    have each : ∀ i, i < m → ∃ kv : ByteArray × ByteArray, w.cell? (a.add (i * 2)) = some (.string kv.1) ∧ w.cell? ((a.add (i * 2)).add 1) = some (.string kv.2) := by
      intro i hi
      obtain ⟨cs', h1, h2⟩ := hx i hi
      rw [cells36] at h1
      obtain ⟨_, hlen, hc⟩ := World.cells?_some h1
      obtain ⟨xs, mm, _, _, _, hxl, hel⟩ := DataW.trod_array Try.underlying36 h2
      match cs', hlen with
      | [c0, c1], _ =>
        have e0 := hel 0 (by omega)
        have e1 := hel 1 (by omega)
        rw [cells9] at e0 e1
        have hx0 : 0 < xs.length := by omega
        have hx1 : 1 < xs.length := by omega
        rw [List.getElem?_eq_getElem hx0] at e0
        rw [List.getElem?_eq_getElem hx1] at e1
        obtain ⟨s0, g0, _, _⟩ := DataW.trod_string Try.underlying9 e0
        obtain ⟨s1, g1, _, _⟩ := DataW.trod_string Try.underlying9 e1
        simp at g0 g1
        subst g0 g1
        have k0 := hc 0 (by omega)
        have k1 := hc 1 (by omega)
        exact ⟨(s0, s1), by simpa [Addr.add] using k0, by simpa using k1⟩
    obtain ⟨F, hF⟩ := choose_lt (α := ByteArray × ByteArray) each
    refine ⟨(List.range len).map F, some a, m, by simp, by simpa using hl, hm, fun j hj => ?_⟩
    have hj' : j < len := by simpa using hj
    have h0 := (hF 0 (by omega)).1
    obtain ⟨b, off, spot⟩ := a
    have hspot : spot = none := by simpa [Addr.add] using World.cell?_spot h0
    subst hspot
    obtain ⟨q0, q1⟩ := hF j (by omega)
    rw [add_plain] at q0 q1
    rw [add_plain] at q1
    exact ⟨b, off, rfl, by rw [getD_ofFn _ _ _ _ hj']; exact q0, by rw [getD_ofFn _ _ _ _ hj']; exact q1⟩

theorem open_levels {fuel : Nat} {v : Value} {x : DataW H × List MemPlace} (h : DataW.trod enc Try.prog w 0 (fun _ => true) true fuel 22 [v] = some x) : ∃ ls, IsLevels w v ls := by
  rcases open_slice1 Try.underlying22 cells35 h with ⟨hcs, _⟩ | ⟨a, len, cap, m, n, V, D, Pl, hcs, _, hl, hm, hmm, _, hx⟩
  · simp only [List.cons.injEq, and_true] at hcs
    subst hcs
    exact ⟨[], none, 0, rfl, Nat.le_refl _, Nat.zero_le _, fun j hj => absurd hj (by simp)⟩
  · simp only [List.cons.injEq, and_true] at hcs
    subst hcs
    simp only [if_true] at hmm
    subst hmm
    have each : ∀ i, i < m → ∃ ps : KV, IsPairs w (V i) ps := fun i hi => open_pairs (hx i hi).2
    obtain ⟨F, hF⟩ := choose_lt (α := KV) each
    refine ⟨(List.range len).map F, some a, m, by simp, by simpa using hl, hm, fun j hj => ?_⟩
    have hj' : j < len := by simpa using hj
    have h0 := (hx 0 (by omega)).1
    obtain ⟨b, off, spot⟩ := a
    have hspot : spot = none := by simpa [Addr.add] using World.cell?_spot h0
    subst hspot
    have q0 := (hx j (by omega)).1
    rw [add_plain] at q0
    exact ⟨b, off, V j, rfl, q0, by rw [getD_ofFn _ _ _ _ hj']; exact hF j (by omega)⟩
end
end Go.Proofs.Qxb6617378a
