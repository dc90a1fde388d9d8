/-
  The walk of zzLastDecl, and what a chain answers in its words.
-/
import Derived.Test.Qxb6617378aShadowsWalk
namespace Go.Proofs.Qxb6617378a
open Go.RowKit

/-- The answer where o is the last declaration. -/
def ans (q : ByteArray) : Option ByteArray → ByteArray × Bool
  | some u => (u, true)
  | none => (ByteArray.empty, decide (q = ByteArray.empty))

theorem chain_last (q : ByteArray) : ∀ rs : List KV, chainLook q (rs.map (puts [])) = ans q (last q rs.reverse.flatten)
  | [] => rfl
  | d :: rs => by
    have h : find q (puts [] d) = last q d := by
      rw [find_puts]
      cases last q d <;> rfl
    rw [List.map_cons, chainLook, h, List.reverse_cons, List.flatten_append, List.flatten_singleton, last_append]
    cases hl : last q d with
    | some u => rfl
    | none => exact chain_last q rs

theorem scopes_last (q : ByteArray) (ls : List KV) : chainLook q (scopes ls) = ans q (last q ls.flatten) := by
  have := chain_last q ls.reverse
  rw [List.reverse_reverse, List.map_reverse] at this
  exact this

theorem ans_snoc (q key val : ByteArray) (pre : KV) : ans q (last q (pre ++ [(key, val)])) = if q = key then (val, true) else ans q (last q pre) := by
  rw [last_snoc]
  split <;> rfl

theorem take_snoc (ps : KV) (j : Nat) (h : j < ps.length) (key val : ByteArray) (hk : ps.getD j default = (key, val)) : ps.take (j + 1) = ps.take j ++ [(key, val)] := by
  rw [List.take_succ_eq_append_getElem h, show ps[j] = (key, val) from by simpa [List.getD, h] using hk]

theorem flatten_snoc (ls : List KV) (k : Nat) (h : k < ls.length) : (ls.take (k + 1)).flatten = (ls.take k).flatten ++ ls.getD k [] := by
  rw [List.take_succ_eq_append_getElem h, show ls.getD k [] = ls[k] by simp [List.getD, h], List.flatten_append, List.flatten_singleton]

set_option maxRecDepth 100000 in
set_option maxHeartbeats 1000000 in
theorem lastDecl_any (ls : List KV) (v : Value) (q : ByteArray) (w : World) (hv : IsLevels w v ls) (hq : (q.toList == [120, 109, 108]) = false) :
    Calls Try.prog 10 #[v, .string q] w fun e w' => e = .returned (.tuple #[.string (ans q (last q ls.flatten)).1, .bool (ans q (last q ls.flatten)).2]) ∧ w' = w := by
  obtain ⟨a, cap, rfl, hl1, hl2, hcells⟩ := hv
  unfold maxLen at hl2
  go_enter Try.func10, Try.ntmps10
  go_wp2
  go_loop [6, 7, 8] (fun t f i => ∃ k : Nat, k ≤ ls.length ∧ i = .int .i64 k ∧ ∃ t' f', t = .string t' ∧ f = .bool f' ∧ (t', f') = ans q (last q (ls.take k).flatten)) (fun _ _ i => ls.length - (intOf i).toNat)
  case atStart => exact ⟨0, Nat.zero_le _, rfl, ByteArray.empty, q.toList.isEmpty, rfl, rfl, by rw [str_empty]; rfl⟩
  case round =>
    obtain ⟨k, hk, rfl, t', f', rfl, rfl, hans⟩ := hrel
    have HA : Hid ((t', f') = ans q (last q (ls.take k).flatten)) := hans
    clear hans
    by_cases hlt : k < ls.length
    · obtain ⟨b, off, x, rfl, hx, hp⟩ := hcells k hlt
      obtain ⟨a2, cap2, rfl, hp1, hp2, hpc⟩ := hp
      unfold maxLen at hp2
      have HC : Hid _ := hcells
      clear hcells
      have HF : Hid ((ls.take (k + 1)).flatten = (ls.take k).flatten ++ ls.getD k []) := flatten_snoc ls k hlt
      generalize ls.getD k [] = ps at *
      have HP : Hid _ := hpc
      clear hpc
      go_wp2
      go_loop [6, 7, 10] (fun t f i => ∃ j : Nat, j ≤ ps.length ∧ i = .int .i64 j ∧ ∃ t' f', t = .string t' ∧ f = .bool f' ∧ (t', f') = ans q (last q ((ls.take k).flatten ++ ps.take j))) (fun _ _ i => ps.length - (intOf i).toNat)
      case atStart => exact ⟨0, Nat.zero_le _, rfl, t', f', rfl, rfl, by simpa using HA.out⟩
      case round =>
        obtain ⟨j, hj, rfl, t2, f2, rfl, rfl, hans2⟩ := hrel
        have HA2 : Hid ((t2, f2) = ans q (last q ((ls.take k).flatten ++ ps.take j))) := hans2
        clear hans2
        by_cases hjl : j < ps.length
        · obtain ⟨b2, off2, rfl, hc1, hc2⟩ := HP.out j hjl
          have hq : ∃ key val, ps.getD j default = (key, val) := ⟨_, _, rfl⟩
          obtain ⟨key, val, hkv⟩ := hq
          rw [hkv] at hc1 hc2
          have HT : Hid (ps.take (j + 1) = ps.take j ++ [(key, val)]) := take_snoc ps j hjl key val hkv
          clear hkv
          by_cases hkq : key = q
          · have hkq' : (key.toList == q.toList) = true := by rw [str_eq]; exact decide_eq_true hkq
            have HK : Hid (key = q) := hkq
            clear hkq
            go_wp2
            go_round
            case rel => exact ⟨j + 1, hjl, by go_num, _, _, rfl, rfl, by rw [HT.out, ← List.append_assoc, ans_snoc, if_pos HK.out.symm]⟩
            case measure => simp [intOf]; omega
          · have hkq' : (key.toList == q.toList) = false := by rw [str_eq]; exact decide_eq_false hkq
            have HK : Hid (¬ key = q) := hkq
            clear hkq
            go_wp2
            go_round
            case rel => exact ⟨j + 1, hjl, by go_num, _, _, rfl, rfl, by rw [HT.out, ← List.append_assoc, ans_snoc, if_neg (fun h => HK.out h.symm)]; exact HA2.out⟩
            case measure => simp [intOf]; omega
        · go_wp2
          go_round
          case rel => exact ⟨k + 1, hlt, by go_num, _, _, rfl, rfl, by rw [HF.out]; have h3 := HA2.out; rwa [List.take_of_length_le (l := ps) (by omega)] at h3⟩
          case measure => simp [intOf]; omega
    · go_wp2
      go_ret2
      have h := HA.out
      rw [List.take_of_length_le (by omega)] at h
      rw [← h]
      exact ⟨rfl, rfl⟩

set_option maxHeartbeats 400000 in
theorem lastDecl_xml (v : Value) (q : ByteArray) (w : World) (hq : (q.toList == [120, 109, 108]) = true) :
    Calls Try.prog 10 #[v, .string q] w fun e w' => e = .returned (.tuple #[.string nsB, .bool true]) ∧ w' = w := by
  go_enter Try.func10, Try.ntmps10
  go_wp2
  go_ret2
  exact ⟨rfl, rfl⟩

theorem lastDecl_all (ls : List KV) (v : Value) (q : ByteArray) (w : World) (hv : IsLevels w v ls) :
    Calls Try.prog 10 #[v, .string q] w fun e w' => e = .returned (.tuple #[.string (look q (scopes ls)).1, .bool (look q (scopes ls)).2]) ∧ w' = w := by
  by_cases h : q = xmlB
  · unfold look
    rw [if_pos h]
    exact lastDecl_xml v q w (by rw [h]; decide +kernel)
  · unfold look
    rw [if_neg h, scopes_last]
    exact lastDecl_any ls v q w hv (not_xml h)

set_option maxRecDepth 100000 in
set_option maxHeartbeats 2000000 in
theorem last_walk (ls : List KV) (v : Value) (q : ByteArray) (w : World) (hv : IsLevels w v ls) : Calls Try.prog 3 #[v, .string q] w (Law w) := by
  have HV : Hid (IsLevels w v ls) := hv
  obtain ⟨a, cap, rfl, -⟩ := hv
  go_enter Try.func3, Try.ntmps3
  go_wp2_with fail
  refine (bytes6_any ls _ q _ HV.out).mono ?_
  rintro e w' ⟨r, rfl, rfl⟩
  cases r
  · go_wp2_with fail
    go_ret
    exact ⟨rfl, Below.refl _ _⟩
  go_wp2_with fail
  · go_ret
    exact ⟨rfl, Below.refl _ _⟩
  · refine (tooBig_any ls _ _ _ HV.out).mono ?_
    rintro e w ⟨r, rfl, rfl⟩
    cases r
    · go_wp2_with fail
      refine (chain_any ls _ _ HV.out).mono ?_
      rintro e w1 ⟨s, rfl, hs, hb1⟩
      obtain ⟨su, hu⟩ := hs.shape
      subst hu
      have HS : Hid (IsScope w1 (scopes ls) (.pointer su)) := hs
      have HV1 : Hid (IsLevels w1 (.slice a ls.length cap) ls) := IsLevels.below HV.out (by exact hb1)
      clear hs
      go_wp2_with fail
      refine (zzlookup_all _ _ _ _ HS.out).mono ?_
      rintro e w4 ⟨rfl, rfl⟩
      generalize hres : look q (scopes ls) = res
      obtain ⟨r1, r2⟩ := res
      have HR : Hid (look q (scopes ls) = (r1, r2)) := hres
      clear hres
      go_wp2_with fail
      refine (lastDecl_all ls _ _ _ HV1.out).mono ?_
      rintro e w5 ⟨rfl, rfl⟩
      rw [HR.out]
      go_wp2_with fail
      go_ret
      exact ⟨by simp, hb1⟩
    · go_wp2_with fail
      go_ret
      exact ⟨rfl, Below.refl _ _⟩
end Go.Proofs.Qxb6617378a
