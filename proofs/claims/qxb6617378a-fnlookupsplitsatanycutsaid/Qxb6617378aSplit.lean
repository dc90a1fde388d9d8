/-
  The walks of zzDeclares and FnLookupSplitsAtAnyCut.
-/
import Derived.Test.Qxb6617378aLast
namespace Go.Proofs.Qxb6617378a
open Go.RowKit

theorem last_none_iff (q : ByteArray) : ∀ ps : KV, last q ps = none ↔ ∀ x ∈ ps, ¬ x.1 = q
  | [] => by simp [last]
  | (a, b) :: r => by
    have ih := last_none_iff q r
    rw [last]
    cases h : last q r with
    | some x =>
      rw [h] at ih
      simp only [reduceCtorEq, false_iff] at ih ⊢
      intro hh
      exact ih fun x hx => hh x (List.mem_cons_of_mem _ hx)
    | none =>
      rw [h] at ih
      simp only [true_iff] at ih
      by_cases hq : q = a
      · subst hq
        simp
      · simp only [if_neg hq, true_iff]
        intro x hx
        rcases List.mem_cons.1 hx with rfl | hx
        · exact fun e => hq e.symm
        · exact ih x hx

theorem last_isSome {q : ByteArray} {ps : KV} {x : ByteArray × ByteArray} (hx : x ∈ ps) (hq : x.1 = q) : (last q ps).isSome = true := by
  cases h : last q ps with
  | some u => rfl
  | none => exact absurd hq ((last_none_iff q ps).1 h x hx)

theorem getD_mem {α : Type} (l : List α) (d : α) (i : Nat) (h : i < l.length) : l.getD i d ∈ l := by
  simp [List.getD, h]

theorem getD_mem_drop {α : Type} (l : List α) (d : α) (i f : Nat) (hf : f ≤ i) (h : i < l.length) : l.getD i d ∈ l.drop f := by
  have : l.getD i d = (l.drop f).getD (i - f) d := by
    simp [List.getD, show f + (i - f) = i by omega]
  rw [this]
  exact getD_mem _ _ _ (by simp; omega)

theorem none_of_rounds {q : ByteArray} {ls : List KV} {f : Nat} (h : ∀ i, f ≤ i → i < ls.length → ∀ x ∈ ls.getD i [], ¬ x.1 = q) : (last q (ls.drop f).flatten).isSome = false := by
  have : last q (ls.drop f).flatten = none := by
    rw [last_none_iff]
    intro x hx
    obtain ⟨l, hl, hxl⟩ := List.mem_flatten.1 hx
    obtain ⟨i, hi, rfl⟩ := List.mem_iff_getElem.1 hl
    have hi' : f + i < ls.length := by simp at hi; omega
    refine h (f + i) (by omega) hi' x ?_
    simpa [List.getD, hi'] using hxl
  rw [this]; rfl

set_option maxRecDepth 100000 in
set_option maxHeartbeats 1000000 in
theorem declares_any (ls : List KV) (v : Value) (q : ByteArray) (f : Nat) (w : World) (hv : IsLevels w v ls) (hf : f ≤ ls.length) :
    Calls Try.prog 12 #[v, .int .i64 f, .int .i64 ls.length, .string q] w fun e w' => e = .returned (.bool (last q (ls.drop f).flatten).isSome) ∧ w' = w := by
  obtain ⟨a, cap, rfl, hl1, hl2, hcells⟩ := hv
  unfold maxLen at hl2
  generalize hres : (last q (ls.drop f).flatten).isSome = res
  have HR : Hid ((last q (ls.drop f).flatten).isSome = res) := hres
  clear hres
  go_enter Try.func12, Try.ntmps12
  go_wp2
  go_loop [9] (fun i => ∃ k : Nat, f ≤ k ∧ k ≤ ls.length ∧ i = .int .i64 k ∧ ∀ i, f ≤ i → i < k → ∀ x ∈ ls.getD i [], ¬ x.1 = q) (fun i => ls.length - (intOf i).toNat)
  case atStart => exact ⟨f, Nat.le_refl _, hf, rfl, fun i h1 h2 => by omega⟩
  case round =>
    obtain ⟨k, hfk, hk, rfl, hno⟩ := hrel
    have HN : Hid (∀ i, f ≤ i → i < k → ∀ x ∈ ls.getD i [], ¬ x.1 = q) := hno
    clear hno
    by_cases hlt : k < ls.length
    · obtain ⟨b, off, x, rfl, hx, hp⟩ := hcells k hlt
      obtain ⟨a2, cap2, rfl, hp1, hp2, hpc⟩ := hp
      unfold maxLen at hp2
      have HC : Hid _ := hcells
      clear hcells
      generalize hps : ls.getD k [] = ps at *
      have HPS : Hid (ls.getD k [] = ps) := hps
      clear hps
      have HP : Hid _ := hpc
      clear hpc
      go_wp2
      go_loop [11] (fun i => ∃ j : Nat, j ≤ ps.length ∧ i = .int .i64 j ∧ ∀ x ∈ ps.take j, ¬ x.1 = q) (fun i => ps.length - (intOf i).toNat)
      case atStart => exact ⟨0, Nat.zero_le _, rfl, by simp⟩
      case round =>
        obtain ⟨j, hj, rfl, hno2⟩ := hrel
        have HN2 : Hid (∀ x ∈ ps.take j, ¬ x.1 = q) := hno2
        clear hno2
        by_cases hjl : j < ps.length
        · obtain ⟨b2, off2, rfl, hc1, hc2⟩ := HP.out j hjl
          have hq : ∃ key val, ps.getD j default = (key, val) := ⟨_, _, rfl⟩
          obtain ⟨key, val, hkv⟩ := hq
          rw [hkv] at hc1 hc2
          have HKV : Hid (ps.getD j default = (key, val)) := hkv
          clear hkv
          by_cases hkq : key = q
          · have hkq' : (key.toList == q.toList) = true := by rw [str_eq]; exact decide_eq_true hkq
            have HK : Hid (key = q) := hkq
            clear hkq
            go_wp2
            go_ret
            refine ⟨?_, rfl⟩
            rw [← HR.out, last_isSome (x := (key, val)) ?_ HK.out]
            · rfl
            refine List.mem_flatten.2 ⟨ps, ?_, ?_⟩
            · rw [← HPS.out]; exact getD_mem_drop _ _ _ _ hfk hlt
            · rw [← HKV.out]; exact getD_mem _ _ _ hjl
          · have hkq' : (key.toList == q.toList) = false := by rw [str_eq]; exact decide_eq_false hkq
            have HK : Hid (¬ key = q) := hkq
            clear hkq
            go_wp2
            go_round
            case rel =>
              refine ⟨j + 1, hjl, by go_num, ?_⟩
              rw [take_snoc ps j hjl key val HKV.out]
              intro x hx
              rcases List.mem_append.1 hx with hx | hx
              · exact HN2.out x hx
              · rw [List.mem_singleton.1 hx]; exact HK.out
            case measure => simp [intOf]; omega
        · go_wp2
          go_round
          case rel =>
            refine ⟨k + 1, by omega, hlt, by go_num, fun i h1 h2 => ?_⟩
            by_cases hik : i = k
            · subst hik
              rw [HPS.out]
              have h3 := HN2.out
              rwa [List.take_of_length_le (l := ps) (by omega)] at h3
            · exact HN.out i h1 (by omega)
          case measure => simp [intOf]; omega
    · go_wp2
      go_ret
      refine ⟨?_, rfl⟩
      rw [← HR.out, none_of_rounds (fun i h1 h2 => HN.out i h1 (by omega))]
      rfl

theorem levels_take {w : World} {a : Option Addr} {cap : Nat} {ls : List KV} (h : IsLevels w (.slice a ls.length cap) ls) (k : Nat) (hk : k ≤ ls.length) : IsLevels w (.slice a k cap) (ls.take k) := by
  obtain ⟨a', cap', h1, h2, h3, h4⟩ := h
  simp only [Value.slice.injEq, true_and] at h1
  obtain ⟨rfl, rfl⟩ := h1
  have hl : (ls.take k).length = k := by simp; omega
  refine ⟨a, cap, by rw [hl], by omega, h3, fun i hi => ?_⟩
  obtain ⟨b, off, x, g1, g2, g3⟩ := h4 i (by omega)
  refine ⟨b, off, x, g1, g2, ?_⟩
  rwa [show (ls.take k).getD i [] = ls.getD i [] by simp [List.getD, show i < k by omega]]

theorem levels_drop {w : World} {a a2 : Option Addr} {cap : Nat} {ls : List KV} (h : IsLevels w (.slice a ls.length cap) ls) (k : Nat) (hk : k ≤ ls.length) (ha : ¬ cap = k → ∀ b off, a = some ⟨b, off, none⟩ → a2 = some ⟨b, off + k, none⟩) :
    IsLevels w (.slice a2 (ls.length - k) (cap - k)) (ls.drop k) := by
  obtain ⟨a', cap', h1, h2, h3, h4⟩ := h
  simp only [Value.slice.injEq, true_and] at h1
  obtain ⟨rfl, rfl⟩ := h1
  refine ⟨a2, cap - k, by simp, by simp; omega, by unfold maxLen at h3 ⊢; omega, fun i hi => ?_⟩
  have hi' : k + i < ls.length := by simp at hi; omega
  obtain ⟨b, off, x, g1, g2, g3⟩ := h4 (k + i) hi'
  refine ⟨b, off + k, x, ha (by omega) b off g1, by rw [Nat.add_assoc]; exact g2, ?_⟩
  rwa [show (ls.drop k).getD i [] = ls.getD (k + i) [] by simp [List.getD]]

/-- The laws of the answers. -/
theorem split_laws (ls : List KV) (k : Nat) (q : ByteArray) (hq : ¬ q = xmlB) :
    (look q (scopes ls)).2 = (decide (q = ByteArray.empty) || (last q (ls.drop 0).flatten).isSome) ∧
    ((last q (ls.drop k).flatten).isSome = true → look q (scopes ls) = look q (scopes (ls.drop k))) ∧
    ((last q (ls.drop k).flatten).isSome = false → look q (scopes ls) = look q (scopes (ls.take k))) := by
  have hl : last q ls.flatten = match last q (ls.drop k).flatten with | some x => some x | none => last q (ls.take k).flatten := by
    have := last_append q (ls.take k).flatten (ls.drop k).flatten
    rwa [← List.flatten_append, List.take_append_drop] at this
  simp only [look, if_neg hq, scopes_last, List.drop_zero]
  refine ⟨?_, ?_, ?_⟩
  · cases last q ls.flatten <;> simp [ans]
  · intro h
    rw [hl]
    cases hd : last q (ls.drop k).flatten with
    | some x => rfl
    | none => rw [hd] at h; cases h
  · intro h
    rw [hl]
    cases hd : last q (ls.drop k).flatten with
    | some x => rw [hd] at h; cases h
    | none => rfl

set_option maxRecDepth 100000 in
set_option maxHeartbeats 2000000 in
theorem split_walk (ls : List KV) (v : Value) (n : Int) (q : ByteArray) (w : World) (hv : IsLevels w v ls) (hn : (Lit.int .i64 n).wf = true) : Calls Try.prog 4 #[v, .int .i64 n, .string q] w (Law w) := by
  have HV : Hid (IsLevels w v ls) := hv
  obtain ⟨a, cap, rfl, hl1, hl2, -⟩ := hv
  unfold maxLen at hl2
  go_enter Try.func4, Try.ntmps4
  go_wp2_with fail
  refine (bytes11_any ls _ n q _ HV.out).mono ?_
  rintro e w' ⟨r, rfl, rfl⟩
  cases r
  · go_wp2_with fail
    go_ret
    exact ⟨rfl, Below.refl _ _⟩
  go_wp2_with fail
  · go_ret
    exact ⟨rfl, Below.refl _ _⟩
  · refine (tooBig_any ls _ _ _ HV.out).mono ?_
    rintro e w ⟨r, rfl, rfl⟩
    cases r
    · go_wp2_with fail
      · go_ret
        exact ⟨rfl, Below.refl _ _⟩
      · obtain ⟨k, rfl⟩ := Int.eq_ofNat_of_zero_le (a := n) (by omega)
        have hk : k ≤ ls.length := by omega
        refine (chain_any ls _ _ HV.out).mono ?_
        rintro e w1 ⟨s1, rfl, hs1, hb1⟩
        obtain ⟨su1, hu⟩ := hs1.shape
        subst hu
        have HS1 : Hid (IsScope w1 (scopes ls) (.pointer su1)) := hs1
        have HV1 : Hid (IsLevels w1 (.slice a ls.length cap) ls) := IsLevels.below HV.out (by exact hb1)
        clear hs1
        go_wp2_with fail
        refine (zzlookup_all _ _ _ _ HS1.out).mono ?_
        rintro e w1' ⟨rfl, rfl⟩
        generalize hr1 : look q (scopes ls) = res
        obtain ⟨u1, k1⟩ := res
        have HR1 : Hid (look q (scopes ls) = (u1, k1)) := hr1
        clear hr1
        go_wp2_with fail
        refine (chain_any (ls.take k) _ _ (levels_take HV1.out k hk)).mono ?_
        rintro e w2 ⟨s2, rfl, hs2, hb2⟩
        obtain ⟨su2, hu⟩ := hs2.shape
        subst hu
        have HS2 : Hid (IsScope w2 (scopes (ls.take k)) (.pointer su2)) := hs2
        have HV2 : Hid (IsLevels w2 (.slice a ls.length cap) ls) := IsLevels.below HV1.out (by exact hb2)
        clear hs2
        go_wp2_with fail
        refine (zzlookup_all _ _ _ _ HS2.out).mono ?_
        rintro e w2' ⟨rfl, rfl⟩
        generalize hr2 : look q (scopes (ls.take k)) = res
        obtain ⟨u2, k2⟩ := res
        have HR2 : Hid (look q (scopes (ls.take k)) = (u2, k2)) := hr2
        clear hr2
        generalize ha2 : (if cap = k then a else Option.map (fun x => x.add k) a) = a2
        go_wp2_with fail
        refine (chain_any (ls.drop k) _ _ (levels_drop HV2.out k hk (fun hne b off hab => by rw [← ha2, if_neg hne, hab]; simp [Addr.add_lit]))).mono ?_
        rintro e w3 ⟨s3, rfl, hs3, hb3⟩
        obtain ⟨su3, hu⟩ := hs3.shape
        subst hu
        have HS3 : Hid (IsScope w3 (scopes (ls.drop k)) (.pointer su3)) := hs3
        have HV3 : Hid (IsLevels w3 (.slice a ls.length cap) ls) := IsLevels.below HV2.out (by exact hb3)
        clear hs3
        go_wp2_with fail
        refine (zzlookup_all _ _ _ _ HS3.out).mono ?_
        rintro e w3' ⟨rfl, rfl⟩
        generalize hr3 : look q (scopes (ls.drop k)) = res
        obtain ⟨u3, k3⟩ := res
        have HR3 : Hid (look q (scopes (ls.drop k)) = (u3, k3)) := hr3
        have HB : Hid (Below w.heap.size w w3') := hb1.trans ((hb2.trans (hb3.mono hb2.size)).mono hb1.size)
        clear hr3 hb1 hb2 hb3 ha2
        by_cases hqx : q = xmlB
        · have hq1 : (q.toList == [120, 109, 108]) = true := by rw [hqx]; decide +kernel
          have e1 : (u1, k1) = (nsB, true) := by rw [← HR1.out]; simp [look, hqx]
          have e3 : (u3, k3) = (nsB, true) := by rw [← HR3.out]; simp [look, hqx]
          simp only [Prod.mk.injEq] at e1 e3
          obtain ⟨rfl, rfl⟩ := e1
          obtain ⟨rfl, rfl⟩ := e3
          clear hqx
          go_wp2_with fail
          go_ret
          exact ⟨by simp, HB.out⟩
        · have hq1 : (q.toList == [120, 109, 108]) = false := not_xml hqx
          obtain ⟨L1, L2, L3⟩ := split_laws ls k q hqx
          rw [HR1.out] at L1 L2 L3
          rw [HR3.out] at L2
          rw [HR2.out] at L3
          have D0 := declares_any ls (.slice a ls.length cap) q 0 w3' HV3.out (Nat.zero_le _)
          have DK := declares_any ls (.slice a ls.length cap) q k w3' HV3.out hk
          generalize (last q (ls.drop 0).flatten).isSome = t0 at L1 D0
          generalize (last q (ls.drop k).flatten).isSome = tk at L2 L3 DK
          have HD0 : Hid (Calls Try.prog 12 #[.slice a ls.length cap, .int .i64 0, .int .i64 ls.length, .string q] w3' fun e w' => e = .returned (.bool t0) ∧ w' = w3') := D0
          have HDK : Hid (Calls Try.prog 12 #[.slice a ls.length cap, .int .i64 k, .int .i64 ls.length, .string q] w3' fun e w' => e = .returned (.bool tk) ∧ w' = w3') := DK
          have HL2 : Hid (tk = true → (u1, k1) = (u3, k3)) := L2
          have HL3 : Hid (tk = false → (u1, k1) = (u2, k2)) := L3
          have he := str_empty q
          clear D0 DK L2 L3
          by_cases hqe : q = ByteArray.empty
          · rw [decide_eq_true hqe] at he L1
            clear hqe hqx
            simp only [Bool.true_or] at L1
            subst L1
            go_wp2_with fail
            refine HDK.out.mono ?_
            rintro e w5 ⟨rfl, rfl⟩
            cases tk
            · have e2 := HL3.out rfl
              simp only [Prod.mk.injEq] at e2
              obtain ⟨rfl, rfl⟩ := e2
              go_wp2_with fail
              go_ret
              exact ⟨by simp, HB.out⟩
            · have e2 := HL2.out rfl
              simp only [Prod.mk.injEq] at e2
              obtain ⟨rfl, rfl⟩ := e2
              go_wp2_with fail
              go_ret
              exact ⟨by simp, HB.out⟩
          · rw [decide_eq_false hqe] at he L1
            clear hqe hqx
            simp only [Bool.false_or] at L1
            subst L1
            go_wp2_with fail
            refine HD0.out.mono ?_
            rintro e w4 ⟨rfl, rfl⟩
            go_wp2_with fail
            refine HDK.out.mono ?_
            rintro e w5 ⟨rfl, rfl⟩
            cases tk
            · have e2 := HL3.out rfl
              simp only [Prod.mk.injEq] at e2
              obtain ⟨rfl, rfl⟩ := e2
              go_wp2_with fail
              go_ret
              exact ⟨by simp, HB.out⟩
            · have e2 := HL2.out rfl
              simp only [Prod.mk.injEq] at e2
              obtain ⟨rfl, rfl⟩ := e2
              go_wp2_with fail
              go_ret
              exact ⟨by simp, HB.out⟩
      · go_ret
        exact ⟨rfl, Below.refl _ _⟩
    · go_wp2_with fail
      go_ret
      exact ⟨rfl, Below.refl _ _⟩
end Go.Proofs.Qxb6617378a
