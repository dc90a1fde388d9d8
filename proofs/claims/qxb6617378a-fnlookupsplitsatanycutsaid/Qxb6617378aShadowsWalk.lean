/-
  The walk of FnLookupNewDeclarationShadows.
-/
import Derived.Test.Qxb6617378aBytes
namespace Go.Proofs.Qxb6617378a
open Go.RowKit

/-- The call returns true and writes nothing that was there. -/
def Law (w : World) (e : Ending) (w' : World) : Prop := e = .returned (.bool true) ∧ Below w.heap.size w w'

theorem not_xml {q : ByteArray} (h : ¬ q = xmlB) : (q.toList == [120, 109, 108]) = false := by
  have := str_eq q xmlB
  rw [show xmlB.toList = [120, 109, 108] by decide +kernel] at this
  rw [this]
  exact decide_eq_false h

theorem ns_list : nsB.toList = [104, 116, 116, 112, 58, 47, 47, 119, 119, 119, 46, 119, 51, 46, 111, 114, 103, 47, 88, 77, 76, 47, 49, 57, 57, 56, 47, 110, 97, 109, 101, 115, 112, 97, 99, 101] := by decide +kernel

/-- A new map, one pair laid into it. -/
theorem new_map (w : World) (p u : ByteArray) : ∃ w2, (Instr.mapUpdate 33 (.map (some w.heap.size)) (.string p) (.string u)).run Try.prog (w.alloc (.map #[] 0)) = .ok () w2 ∧
    IsDecls w2 (.map (some w.heap.size)) [(p, u)] ∧ Below w.heap.size w w2 := by
  have h0 := (MapKept.heap_alloc w (.map #[] 0)).1
  obtain ⟨es, clock, hup, hents⟩ := run_update (P := Try.prog) (w := w.alloc (.map #[] 0)) Try.underlying33 Try.underlying9 h0 (kvs := []) rfl p u
  have hs := MapKept.heap_set (o' := .map es clock) h0
  refine ⟨_, hup, .inr ⟨_, es, clock, rfl, hs.1, hents⟩, rfl, rfl, rfl, by simp, fun k hk => ?_⟩
  show ((w.alloc (.map #[] 0)).heap.setIfInBounds w.heap.size (.map es clock))[k]? = _
  rw [hs.2 k (by omega)]
  exact Below.heap_alloc _ _ _ hk

set_option maxRecDepth 100000 in
set_option maxHeartbeats 2000000 in
theorem shadows_walk (ls : List KV) (v : Value) (p u q : ByteArray) (w : World) (hv : IsLevels w v ls) : Calls Try.prog 5 #[v, .string p, .string u, .string q] w (Law w) := by
  have HV : Hid (IsLevels w v ls) := hv
  obtain ⟨a, cap, rfl, -⟩ := hv
  go_enter Try.func5, Try.ntmps5
  go_wp2_with fail
  refine (bytes13_any ls _ p u q _ HV.out).mono ?_
  rintro e w' ⟨r, rfl, rfl⟩
  cases r
  · go_wp2_with fail
    go_ret
    exact ⟨rfl, Below.refl _ _⟩
  go_wp2_with fail
  · go_ret
    exact ⟨rfl, Below.refl _ _⟩
  · refine (tooBig_any ls _ _ _ HV.out).mono ?_
    rintro e w ⟨r, rfl, rfl⟩
    cases r
    · go_wp2_with fail
      refine (chain_any ls _ _ HV.out).mono ?_
      rintro e w1 ⟨s, rfl, hs, hb1⟩
      obtain ⟨su, hu⟩ := hs.shape
      subst hu
      have hmm := @run_makeMap Try.prog
      obtain ⟨w2, hup, hd, hb2⟩ := new_map w1 p u
      have HD : Hid (IsDecls w2 (.map (some w1.heap.size)) [(p, u)]) := hd
      have HS1 : Hid (IsScope w2 (scopes ls) (.pointer su)) := IsScope.below hb2 hs
      clear hd hs
      go_wp2_with fail
      refine (newscope_any _ _ _ _ _ HS1.out HD.out).mono ?_
      rintro e w3 ⟨t, rfl, ht, hb3⟩
      have HS2 : Hid (IsScope w3 (scopes ls) (.pointer su)) := IsScope.below hb3 HS1.out
      obtain ⟨tu, htu⟩ := ht.shape
      subst htu
      have HT : Hid (IsScope w3 ([(p, u)] :: scopes ls) (.pointer tu)) := ht
      have HB : Hid (Below w.heap.size w w3) := hb1.trans ((hb2.trans (hb3.mono hb2.size)).mono hb1.size)
      clear ht hup hmm hb1 hb2 hb3
      go_wp2_with fail
      refine (zzlookup_all _ _ _ _ HT.out).mono ?_
      rintro e w4 ⟨rfl, rfl⟩
      by_cases hqx : q = xmlB
      · have hq1 : (q.toList == [120, 109, 108]) = true := by rw [hqx]; decide +kernel
        have hl1 : (look q ([(p, u)] :: scopes ls)).1 = nsB := by simp [look, hqx]
        have hl2 : (look q ([(p, u)] :: scopes ls)).2 = true := by simp [look, hqx]
        rw [hl1, hl2]
        clear hl1 hl2 hqx
        have hns := ns_list
        go_wp2_with fail
        go_ret
        exact ⟨by simp, HB.out⟩
      · have hq1 : (q.toList == [120, 109, 108]) = false := not_xml hqx
        by_cases hqp : q = p
        · subst hqp
          have hl1 : (look q ([(q, u)] :: scopes ls)).1 = u := by simp [look, hqx, chainLook, find]
          have hl2 : (look q ([(q, u)] :: scopes ls)).2 = true := by simp [look, hqx, chainLook, find]
          rw [hl1, hl2]
          clear hl1 hl2 hqx
          go_wp2_with fail
          go_ret
          exact ⟨by simp, HB.out⟩
        · have hqp' : (q.toList == p.toList) = false := by rw [str_eq]; exact decide_eq_false hqp
          have hl : look q ([(p, u)] :: scopes ls) = look q (scopes ls) := by simp [look, hqx, chainLook, find, hqp]
          rw [hl]
          clear hl hqx hqp
          generalize hres : look q (scopes ls) = res
          obtain ⟨r1, r2⟩ := res
          have HR : Hid (look q (scopes ls) = (r1, r2)) := hres
          clear hres
          go_wp2_with fail
          refine (zzlookup_all _ _ _ _ HS2.out).mono ?_
          rintro e w5 ⟨rfl, rfl⟩
          rw [HR.out]
          go_wp2_with fail
          go_ret
          exact ⟨by simp, HB.out⟩
    · go_wp2_with fail
      go_ret
      exact ⟨rfl, Below.refl _ _⟩
  · go_ret
    exact ⟨rfl, Below.refl _ _⟩
  · go_ret
    exact ⟨rfl, Below.refl _ _⟩
end Go.Proofs.Qxb6617378a
