/-
  The walk of zzChain.
-/
import Derived.Test.Qxb6617378aLook
import Derived.Deep.LoopGhost
namespace Go.Proofs.Qxb6617378a
open Go.RowKit

/-- The slice value v holds the pairs ps. -/
def IsPairs (w : World) (v : Value) (ps : KV) : Prop :=
  ∃ a cap, v = .slice a ps.length cap ∧ ps.length ≤ cap ∧ cap ≤ maxLen ∧
    ∀ j, j < ps.length → ∃ b off, a = some ⟨b, off, none⟩ ∧ w.cell? ⟨b, off + j * 2, none⟩ = some (.string (ps.getD j default).1) ∧ w.cell? ⟨b, off + j * 2 + 1, none⟩ = some (.string (ps.getD j default).2)

/-- The slice value v holds the levels ls. -/
def IsLevels (w : World) (v : Value) (ls : List KV) : Prop :=
  ∃ a cap, v = .slice a ls.length cap ∧ ls.length ≤ cap ∧ cap ≤ maxLen ∧
    ∀ i, i < ls.length → ∃ b off x, a = some ⟨b, off, none⟩ ∧ w.cell? ⟨b, off + i, none⟩ = some x ∧ IsPairs w x (ls.getD i [])

theorem IsPairs.below {w w' : World} {v : Value} {ps : KV} (h : IsPairs w v ps) (hb : Below w.heap.size w w') : IsPairs w' v ps := by
  obtain ⟨a, cap, h1, h2, h3, h4⟩ := h
  refine ⟨a, cap, h1, h2, h3, fun j hj => ?_⟩
  obtain ⟨b, off, g1, g2, g3⟩ := h4 j hj
  exact ⟨b, off, g1, by rw [hb.cell (p := ⟨b, _, none⟩) (World.block_lt_of_cell? _ _ g2)]; exact g2, by rw [hb.cell (p := ⟨b, _, none⟩) (World.block_lt_of_cell? _ _ g3)]; exact g3⟩

theorem IsLevels.below {w w' : World} {v : Value} {ls : List KV} (h : IsLevels w v ls) (hb : Below w.heap.size w w') : IsLevels w' v ls := by
  obtain ⟨a, cap, h1, h2, h3, h4⟩ := h
  refine ⟨a, cap, h1, h2, h3, fun j hj => ?_⟩
  obtain ⟨b, off, x, g1, g2, g3⟩ := h4 j hj
  exact ⟨b, off, x, g1, by rw [hb.cell (p := ⟨b, _, none⟩) (World.block_lt_of_cell? _ _ g2)]; exact g2, g3.below hb⟩

/-- The chain of scopes that the levels make, the innermost first. -/
def scopes (ls : List KV) : List KV := (ls.map (puts [])).reverse

theorem scopes_succ (ls : List KV) (k : Nat) (h : k < ls.length) : scopes (ls.take (k + 1)) = puts [] (ls.getD k []) :: scopes (ls.take k) := by
  unfold scopes
  rw [List.take_succ_eq_append_getElem h, List.map_append, List.reverse_append, show ls.getD k [] = ls[k] by simp [List.getD, h]]
  rfl

set_option maxHeartbeats 1000000 in
theorem chain_any (ls : List KV) (v : Value) (w : World) (hv : IsLevels w v ls) :
    Calls Try.prog 9 #[v] w fun e w' => ∃ s, e = .returned s ∧ IsScope w' (scopes ls) s ∧ Below w.heap.size w w' := by
  obtain ⟨a, cap, rfl, hl1, hl2, hcells⟩ := hv
  unfold maxLen at hl2
  go_enter Try.func9, Try.ntmps9
  go_wp2
  go_loopw [3, 4] (fun s i wr => ∃ k : Nat, k ≤ ls.length ∧ i = .int .i64 k ∧ IsScope wr (scopes (ls.take k)) s ∧ Below w.heap.size w wr)
    (fun _ i _ => ls.length - (intOf i).toNat)
  case atStart => exact ⟨0, Nat.zero_le _, rfl, by simp [scopes]; rfl, Below.refl _ _⟩
  case round =>
    obtain ⟨k, hk, rfl, hsc, hbel⟩ := hrel
    by_cases hlt : k < ls.length
    · obtain ⟨b, off, x, rfl, hx, hp⟩ := hcells k hlt
      have hx' : wr.cell? ⟨b, off + k, none⟩ = some x := by rw [hbel.cell (p := ⟨b, _, none⟩) (World.block_lt_of_cell? _ _ hx)]; exact hx
      obtain ⟨a2, cap2, rfl, hp1, hp2, hpc⟩ := hp
      unfold maxLen at hp2
      have HC : Hid _ := hcells
      have HX : Hid _ := hx
      have HS : Hid _ := hsc
      clear hcells hx hsc
      obtain ⟨u, hu⟩ := IsScope.shape HS.out
      subst hu
      by_cases h0 : 0 < (ls.getD k []).length
      · have hmm := @run_makeMap Try.prog
        generalize hps : ls.getD k [] = ps at *
        have HPS : Hid _ := hps
        clear hps
        have HP : Hid _ := hpc
        clear hpc
        obtain ⟨wo, hwo⟩ : ∃ wo, wo = wr := ⟨_, rfl⟩
        subst hwo
        go_wp2
        go_loopw [7] (fun i wi => ∃ j : Nat, ∃ es clock, j ≤ ps.length ∧ i = .int .i64 j ∧ wi.heap[wo.heap.size]? = some (.map es clock) ∧ Ents es.toList (puts [] (ps.take j)) ∧ Below wo.heap.size wo wi)
          (fun i _ => ps.length - (intOf i).toNat)
        case atStart => exact ⟨0, #[], 0, Nat.zero_le _, rfl, (MapKept.heap_alloc wo _).1, rfl, (Below.refl _ _).alloc (Nat.le_refl _) _⟩
        case round =>
          obtain ⟨j, es, clock, hj, rfl, hmap, hents, hbel2⟩ := hrel
          by_cases hjl : j < ps.length
          · obtain ⟨b2, off2, rfl, hc1, hc2⟩ := HP.out j hjl
            have hq : ∃ key val, ps.getD j default = (key, val) := ⟨_, _, rfl⟩
            obtain ⟨key, val, hkv⟩ := hq
            rw [hkv] at hc1 hc2
            have hbw : Below w.heap.size w wr := hbel.trans (hbel2.mono hbel.size)
            have hd1 : wr.cell? ⟨b2, off2 + j * 2, none⟩ = some (.string key) := by rw [hbw.cell (p := ⟨b2, _, none⟩) (World.block_lt_of_cell? _ _ hc1)]; exact hc1
            have hd2 : wr.cell? ⟨b2, off2 + j * 2 + 1, none⟩ = some (.string val) := by rw [hbw.cell (p := ⟨b2, _, none⟩) (World.block_lt_of_cell? _ _ hc2)]; exact hc2
            obtain ⟨es', clock', hup, hents'⟩ := run_update (P := Try.prog) (w := wr.drew) Try.underlying33 Try.underlying9 hmap hents key val
            have HE : Hid _ := hents'
            have HM : Hid _ := hmap
            clear hents' hents hmap hc1 hc2
            have HK : Hid _ := hkv
            clear hkv
            go_wp2
            go_region
            go_wp2
            go_roundw
            case rel =>
              refine ⟨j + 1, es', clock', hjl, by go_num, (MapKept.heap_set (w := wr) HM.out).1, ?_, ?_⟩
              · rw [List.take_succ_eq_append_getElem hjl, show ps[j] = (key, val) from by have := HK.out; simpa [List.getD, hjl] using this, puts_snoc]
                exact HE.out
              · refine hbel2.trans ⟨rfl, rfl, rfl, by simp, fun i hi => ?_⟩
                exact (MapKept.heap_set (w := wr) HM.out).2 i (by omega)
            case measure => simp [intOf]; omega
          · have hjeq : j = ps.length := by omega
            subst hjeq
            have hd : IsDecls wr (.map (some wo.heap.size)) (puts [] ps) := .inr ⟨_, es, clock, rfl, hmap, by simpa using hents⟩
            have HD : Hid (IsDecls wr (.map (some wo.heap.size)) (puts [] ps)) := hd
            have HS2 : Hid (IsScope wr _ _) := IsScope.below hbel2 HS.out
            clear hents hmap hd
            go_wp2_with fail
            refine (newscope_any _ _ _ _ _ HS2.out HD.out).mono ?_
            rintro e w2 ⟨s2, rfl, hs2, hb2⟩
            obtain ⟨u2, hu2⟩ := hs2.shape
            subst hu2
            have HS3 : Hid _ := hs2
            clear hs2
            go_wp2
            go_roundw
            case rel =>
              refine ⟨k + 1, hlt, by go_num, ?_, hbel.trans ((hbel2.mono hbel.size).trans (hb2.mono ?_))⟩
              · rw [scopes_succ ls k hlt, HPS.out]; exact HS3.out
              · have := hbel.size; have := hbel2.size; omega
            case measure => simp [intOf]; omega
      · have hps : ls.getD k [] = [] := List.eq_nil_of_length_eq_zero (by omega)
        have HPS : Hid _ := hps
        rw [hps] at hx' h0
        clear hps hpc hp1 HX
        simp only [List.length_nil] at hx' h0
        have hd : IsDecls wr (.map none) (puts [] []) := .inl ⟨rfl, rfl⟩
        have HD : Hid (IsDecls wr (.map none) (puts [] [])) := hd
        clear hd
        go_wp2_with fail
        refine (newscope_any _ _ _ _ _ HS.out HD.out).mono ?_
        rintro e w2 ⟨s2, rfl, hs2, hb2⟩
        obtain ⟨u2, hu2⟩ := hs2.shape
        subst hu2
        have HS3 : Hid _ := hs2
        clear hs2
        go_wp2
        go_roundw
        case rel =>
          refine ⟨k + 1, hlt, by go_num, ?_, hbel.trans (hb2.mono hbel.size)⟩
          rw [scopes_succ ls k hlt, HPS.out]; exact HS3.out
        case measure => simp [intOf]; omega
    · go_wp2
      go_ret
      exact ⟨_, rfl, by rwa [List.take_of_length_le (by omega)] at hsc, hbel⟩
end Go.Proofs.Qxb6617378a
