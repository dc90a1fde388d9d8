/-
  zzTooBig answers some bool and leaves the world as it is.
-/
import Derived.Test.Qxb6617378aChain
namespace Go.Proofs.Qxb6617378a
open Go.RowKit

/-- e is some bool, and the world stands. -/
def SomeBool (w : World) (e : Ending) (w' : World) : Prop := ∃ r, e = .returned (.bool r) ∧ w' = w

theorem SomeBool.mk {w : World} (r : Bool) : SomeBool w (.returned (.bool r)) w := ⟨r, rfl, rfl⟩

set_option maxHeartbeats 1000000 in
theorem tooBig_any (ls : List KV) (v : Value) (z : Int) (w : World) (hv : IsLevels w v ls) : Calls Try.prog 7 #[v, .int .i64 z] w (SomeBool w) := by
  obtain ⟨a, cap, rfl, hl1, hl2, hcells⟩ := hv
  unfold maxLen at hl2
  go_enter Try.func7, Try.ntmps7
  go_wp2
  · go_ret
    exact SomeBool.mk _
  · go_loop [1, 5] (fun t i => ∃ k : Nat, k ≤ ls.length ∧ i = .int .i64 k ∧ ∃ y, t = .int .i64 y) (fun _ i => ls.length - (intOf i).toNat)
    case atStart => exact ⟨0, Nat.zero_le _, rfl, _, rfl⟩
    case round =>
      obtain ⟨k, hk, rfl, y, rfl⟩ := hrel
      by_cases hlt : k < ls.length
      · obtain ⟨b, off, x, rfl, hx, hp⟩ := hcells k hlt
        obtain ⟨a2, cap2, rfl, hp1, hp2, hpc⟩ := hp
        unfold maxLen at hp2
        have HC : Hid _ := hcells
        clear hcells
        generalize hps : ls.getD k [] = ps at *
        clear hps
        have HP : Hid _ := hpc
        clear hpc
        go_wp2
        · go_ret
          exact SomeBool.mk _
        · go_loop [1, 7] (fun t i => ∃ j : Nat, j ≤ ps.length ∧ i = .int .i64 j ∧ ∃ y, t = .int .i64 y) (fun _ i => ps.length - (intOf i).toNat)
          case atStart => exact ⟨0, Nat.zero_le _, rfl, _, rfl⟩
          case round =>
            obtain ⟨j, hj, rfl, y2, rfl⟩ := hrel
            by_cases hjl : j < ps.length
            · obtain ⟨b2, off2, rfl, hc1, hc2⟩ := HP.out j hjl
              have hq : ∃ key val, ps.getD j default = (key, val) := ⟨_, _, rfl⟩
              obtain ⟨key, val, hkv⟩ := hq
              rw [hkv] at hc1 hc2
              clear hkv
              go_wp2
              all_goals first
                | (go_ret; exact SomeBool.mk _)
                | (go_round
                   case rel => exact ⟨j + 1, hjl, by go_num, _, rfl⟩
                   case measure => simp [intOf]; omega)
            · go_wp2
              go_round
              case rel => exact ⟨k + 1, hlt, by go_num, _, rfl⟩
              case measure => simp [intOf]; omega
      · go_wp2
        go_ret
        exact SomeBool.mk _
end Go.Proofs.Qxb6617378a
