/-
  zzBytes_.. answer some bool and leave the world as it is.
-/
import Derived.Test.Qxb6617378aTooBig
namespace Go.Proofs.Qxb6617378a
open Go.RowKit

theorem pair_cell {w : World} {b o j : Nat} {key val : ByteArray} (h1 : w.cell? ⟨b, o + j * 2, none⟩ = some (.string key)) (h2 : w.cell? ⟨b, o + j * 2 + 1, none⟩ = some (.string val)) (t : Nat) (ht : t < 2) :
    ∃ s : ByteArray, w.cell? ⟨b, o + j * 2 + t, none⟩ = some (.string s) := by
  match t, ht with
  | 0, _ => exact ⟨_, h1⟩
  | 1, _ => exact ⟨_, h2⟩

set_option maxRecDepth 100000 in
set_option maxHeartbeats 2000000 in
theorem bytes13_any (ls : List KV) (v : Value) (p u q : ByteArray) (w : World) (hv : IsLevels w v ls) : Calls Try.prog 13 #[v, .string p, .string u, .string q] w (SomeBool w) := by
  obtain ⟨a, cap, rfl, hl1, hl2, hcells⟩ := hv
  unfold maxLen at hl2
  go_enter Try.func13, Try.ntmps13
  go_wp2
  · go_ret
    exact SomeBool.mk _
  go_loop [9, 10] (fun t i => ∃ k : Nat, k ≤ ls.length ∧ i = .int .i64 k ∧ ∃ y, t = .int .i64 y) (fun _ i => ls.length - (intOf i).toNat)
  case atStart => exact ⟨0, Nat.zero_le _, rfl, _, rfl⟩
  case round =>
    obtain ⟨k, hk, rfl, y, rfl⟩ := hrel
    by_cases hlt : k < ls.length
    · obtain ⟨b, off, x, rfl, hx, hp⟩ := hcells k hlt
      obtain ⟨a2, cap2, rfl, hp1, hp2, hpc⟩ := hp
      unfold maxLen at hp2
      have HC : Hid _ := hcells
      clear hcells
      generalize hps : ls.getD k [] = ps at *
      clear hps
      have HP : Hid _ := hpc
      clear hpc
      go_wp2
      · go_ret
        exact SomeBool.mk _
      · go_ret
        exact SomeBool.mk _
      go_loop [9, 11] (fun t i => ∃ j : Nat, j ≤ ps.length ∧ i = .int .i64 j ∧ ∃ y, t = .int .i64 y) (fun _ i => ps.length - (intOf i).toNat)
      case atStart => exact ⟨0, Nat.zero_le _, rfl, _, rfl⟩
      case round =>
        obtain ⟨j, hj, rfl, y2, rfl⟩ := hrel
        by_cases hjl : j < ps.length
        · obtain ⟨b2, off2, rfl, hc1, hc2⟩ := HP.out j hjl
          have hpc := pair_cell hc1 hc2
          clear hc1 hc2
          have HT : Hid _ := hpc
          clear hpc
          go_wp2
          go_loop [9, 12] (fun t i => ∃ q : Nat, q ≤ 2 ∧ i = .int .i64 q ∧ ∃ y, t = .int .i64 y) (fun _ i => 2 - (intOf i).toNat)
          case atStart => exact ⟨0, Nat.zero_le _, rfl, _, rfl⟩
          case round =>
            obtain ⟨q, hq, rfl, y3, rfl⟩ := hrel
            by_cases hql : q < 2
            · obtain ⟨s, hs⟩ := HT.out q hql
              go_wp2
              all_goals first
                | (go_ret; exact SomeBool.mk _)
                | (go_round
                   case rel => exact ⟨q + 1, hql, by go_num, _, rfl⟩
                   case measure => simp [intOf]; omega)
            · go_wp2
              go_round
              case rel => exact ⟨j + 1, hjl, by go_num, _, rfl⟩
              case measure => simp [intOf]; omega
        · go_wp2
          go_round
          case rel => exact ⟨k + 1, hlt, by go_num, _, rfl⟩
          case measure => simp [intOf]; omega
    · go_wp2
      all_goals (go_ret; exact SomeBool.mk _)

set_option maxRecDepth 100000 in
set_option maxHeartbeats 2000000 in
theorem bytes6_any (ls : List KV) (v : Value) (p : ByteArray) (w : World) (hv : IsLevels w v ls) : Calls Try.prog 6 #[v, .string p] w (SomeBool w) := by
  obtain ⟨a, cap, rfl, hl1, hl2, hcells⟩ := hv
  unfold maxLen at hl2
  go_enter Try.func6, Try.ntmps6
  go_wp2
  · go_ret
    exact SomeBool.mk _
  go_loop [5, 6] (fun t i => ∃ k : Nat, k ≤ ls.length ∧ i = .int .i64 k ∧ ∃ y, t = .int .i64 y) (fun _ i => ls.length - (intOf i).toNat)
  case atStart => exact ⟨0, Nat.zero_le _, rfl, _, rfl⟩
  case round =>
    obtain ⟨k, hk, rfl, y, rfl⟩ := hrel
    by_cases hlt : k < ls.length
    · obtain ⟨b, off, x, rfl, hx, hp⟩ := hcells k hlt
      obtain ⟨a2, cap2, rfl, hp1, hp2, hpc⟩ := hp
      unfold maxLen at hp2
      have HC : Hid _ := hcells
      clear hcells
      generalize hps : ls.getD k [] = ps at *
      clear hps
      have HP : Hid _ := hpc
      clear hpc
      go_wp2
      · go_ret
        exact SomeBool.mk _
      · go_ret
        exact SomeBool.mk _
      go_loop [5, 7] (fun t i => ∃ j : Nat, j ≤ ps.length ∧ i = .int .i64 j ∧ ∃ y, t = .int .i64 y) (fun _ i => ps.length - (intOf i).toNat)
      case atStart => exact ⟨0, Nat.zero_le _, rfl, _, rfl⟩
      case round =>
        obtain ⟨j, hj, rfl, y2, rfl⟩ := hrel
        by_cases hjl : j < ps.length
        · obtain ⟨b2, off2, rfl, hc1, hc2⟩ := HP.out j hjl
          have hpc := pair_cell hc1 hc2
          clear hc1 hc2
          have HT : Hid _ := hpc
          clear hpc
          go_wp2
          go_loop [5, 8] (fun t i => ∃ q : Nat, q ≤ 2 ∧ i = .int .i64 q ∧ ∃ y, t = .int .i64 y) (fun _ i => 2 - (intOf i).toNat)
          case atStart => exact ⟨0, Nat.zero_le _, rfl, _, rfl⟩
          case round =>
            obtain ⟨q, hq, rfl, y3, rfl⟩ := hrel
            by_cases hql : q < 2
            · obtain ⟨s, hs⟩ := HT.out q hql
              go_wp2
              all_goals first
                | (go_ret; exact SomeBool.mk _)
                | (go_round
                   case rel => exact ⟨q + 1, hql, by go_num, _, rfl⟩
                   case measure => simp [intOf]; omega)
            · go_wp2
              go_round
              case rel => exact ⟨j + 1, hjl, by go_num, _, rfl⟩
              case measure => simp [intOf]; omega
        · go_wp2
          go_round
          case rel => exact ⟨k + 1, hlt, by go_num, _, rfl⟩
          case measure => simp [intOf]; omega
    · go_wp2
      all_goals (go_ret; exact SomeBool.mk _)

set_option maxRecDepth 100000 in
set_option maxHeartbeats 2000000 in
theorem bytes11_any (ls : List KV) (v : Value) (n : Int) (p : ByteArray) (w : World) (hv : IsLevels w v ls) : Calls Try.prog 11 #[v, .int .i64 n, .string p] w (SomeBool w) := by
  obtain ⟨a, cap, rfl, hl1, hl2, hcells⟩ := hv
  unfold maxLen at hl2
  go_enter Try.func11, Try.ntmps11
  go_wp2
  · go_ret
    exact SomeBool.mk _
  go_loop [7, 8] (fun t i => ∃ k : Nat, k ≤ ls.length ∧ i = .int .i64 k ∧ ∃ y, t = .int .i64 y) (fun _ i => ls.length - (intOf i).toNat)
  case atStart => exact ⟨0, Nat.zero_le _, rfl, _, rfl⟩
  case round =>
    obtain ⟨k, hk, rfl, y, rfl⟩ := hrel
    by_cases hlt : k < ls.length
    · obtain ⟨b, off, x, rfl, hx, hp⟩ := hcells k hlt
      obtain ⟨a2, cap2, rfl, hp1, hp2, hpc⟩ := hp
      unfold maxLen at hp2
      have HC : Hid _ := hcells
      clear hcells
      generalize hps : ls.getD k [] = ps at *
      clear hps
      have HP : Hid _ := hpc
      clear hpc
      go_wp2
      · go_ret
        exact SomeBool.mk _
      · go_ret
        exact SomeBool.mk _
      go_loop [7, 9] (fun t i => ∃ j : Nat, j ≤ ps.length ∧ i = .int .i64 j ∧ ∃ y, t = .int .i64 y) (fun _ i => ps.length - (intOf i).toNat)
      case atStart => exact ⟨0, Nat.zero_le _, rfl, _, rfl⟩
      case round =>
        obtain ⟨j, hj, rfl, y2, rfl⟩ := hrel
        by_cases hjl : j < ps.length
        · obtain ⟨b2, off2, rfl, hc1, hc2⟩ := HP.out j hjl
          have hpc := pair_cell hc1 hc2
          clear hc1 hc2
          have HT : Hid _ := hpc
          clear hpc
          go_wp2
          go_loop [7, 10] (fun t i => ∃ q : Nat, q ≤ 2 ∧ i = .int .i64 q ∧ ∃ y, t = .int .i64 y) (fun _ i => 2 - (intOf i).toNat)
          case atStart => exact ⟨0, Nat.zero_le _, rfl, _, rfl⟩
          case round =>
            obtain ⟨q, hq, rfl, y3, rfl⟩ := hrel
            by_cases hql : q < 2
            · obtain ⟨s, hs⟩ := HT.out q hql
              go_wp2
              all_goals first
                | (go_ret; exact SomeBool.mk _)
                | (go_round
                   case rel => exact ⟨q + 1, hql, by go_num, _, rfl⟩
                   case measure => simp [intOf]; omega)
            · go_wp2
              go_round
              case rel => exact ⟨j + 1, hjl, by go_num, _, rfl⟩
              case measure => simp [intOf]; omega
        · go_wp2
          go_round
          case rel => exact ⟨k + 1, hlt, by go_num, _, rfl⟩
          case measure => simp [intOf]; omega
    · go_wp2
      all_goals (go_ret; exact SomeBool.mk _)
end Go.Proofs.Qxb6617378a
