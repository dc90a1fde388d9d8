/-
  The walks of the small functions on pieces: ZZMakePiece, ZZPieceN, ZZPieceLit, ZZPieceOff, sameLit, pieceIs.
-/
import Derived.Test.Qxb6617398aRows
import Derived.Test.Qxb6617398aPieces
import Derived.WalkSpells
import Derived.Test.Qxb6617398aLater
namespace Go.Proofs.Qxb6617398a
open Go.RowKit

/-- The piece as a value. -/
def Pc.val (p : Pc) : Value := .agg #[.int .i64 p.off, .int .i64 p.n, p.lv]

set_option maxHeartbeats 400000 in
theorem makePiece_any (off n : Int) (a : Option Addr) (l c : Nat) (w : World) :
    Calls Try.prog 14 #[.int .i64 off, .int .i64 n, .slice a l c] w fun e w' => e = .returned (.agg #[.int .i64 off, .int .i64 n, .slice a l c]) ∧ Below w.heap.size w w' := by
  go_enter Try.func14, Try.ntmps14
  go_wp2
  exact bodyPost_ret (v := .agg #[.int .i64 off, .int .i64 n, .slice a l c]) (by simp [results, Try.results14, go_sem]) rfl ⟨rfl, (Below.refl _ _).alloc (Nat.le_refl _) _⟩

set_option maxHeartbeats 400000 in
theorem pieceN_any (off n : Int) (a : Option Addr) (l c : Nat) (w : World) :
    Calls Try.prog 22 #[.agg #[.int .i64 off, .int .i64 n, .slice a l c]] w fun e w' => e = .returned (.int .i64 n) ∧ Below w.heap.size w w' := by
  go_enter Try.func22, Try.ntmps22
  go_wp2
  go_ret
  exact ⟨rfl, (Below.refl _ _).alloc (Nat.le_refl _) _⟩

set_option maxHeartbeats 400000 in
theorem pieceLit_any (off n : Int) (a : Option Addr) (l c : Nat) (w : World) :
    Calls Try.prog 23 #[.agg #[.int .i64 off, .int .i64 n, .slice a l c]] w fun e w' => e = .returned (.slice a l c) ∧ Below w.heap.size w w' := by
  go_enter Try.func23, Try.ntmps23
  go_wp2
  go_ret
  exact ⟨rfl, (Below.refl _ _).alloc (Nat.le_refl _) _⟩

set_option maxHeartbeats 400000 in
theorem pieceOff_any (off n : Int) (a : Option Addr) (l c : Nat) (w : World) :
    Calls Try.prog 24 #[.agg #[.int .i64 off, .int .i64 n, .slice a l c]] w fun e w' => e = .returned (.int .i64 off) ∧ Below w.heap.size w w' := by
  go_enter Try.func24, Try.ntmps24
  go_wp2
  go_ret
  exact ⟨rfl, (Below.refl _ _).alloc (Nat.le_refl _) _⟩

set_option maxRecDepth 100000 in
set_option maxHeartbeats 1000000 in
theorem sameLit_any (l : Option (List Int)) (x y : Value) (w : World) (hx : IsLit w x l) (hy : IsLit w y l) :
    Calls Try.prog 32 #[x, y] w fun e w' => e = .returned (.bool true) ∧ Below w.heap.size w w' := by
  have HX : Hid (IsInts .u8 w x (l.getD [])) := hx.ints
  have HY : Hid (IsInts .u8 w y (l.getD [])) := hy.ints
  obtain ⟨a, c, rfl, ha, h1, h2⟩ := hx.shape
  obtain ⟨a2, c2, rfl, ha2, h3, h4⟩ := hy.shape
  unfold maxLen at h1 h3
  have hn := fun (w : World) a n c => Lib.run_eql_slice_nil (P := Try.prog) w 22 5 a n c 0 0 Try.underlying22
  clear hx hy
  generalize l.getD [] = bs at *
  generalize hb : l.isNone = b at *
  clear hb
  have hbb : (b != b) = false := by cases b <;> rfl
  go_enter Try.func32, Try.ntmps32
  go_wp2
  go_loopw [5] (fun i wr => ∃ k : Nat, k ≤ bs.length ∧ i = .int .i64 k ∧ Below w.heap.size w wr) (fun i _ => bs.length - (intOf i).toNat)
  case atStart => exact ⟨0, Nat.zero_le _, rfl, Below.refl _ _⟩
  case round =>
    obtain ⟨k, hk, rfl, hbel⟩ := hrel
    clear ha ha2 hn
    by_cases hlt : k < bs.length
    · obtain ⟨b1, o1, rfl, hc⟩ := HX.out.cell hlt
      obtain ⟨b2, o2, rfl, hd⟩ := HY.out.cell hlt
      have hc' : wr.cell? ⟨b1, o1 + k, none⟩ = some (.int .u8 (bs.getD k 0)) := by rw [hbel.cell (p := ⟨b1, _, none⟩) (World.block_lt_of_cell? _ _ hc)]; exact hc
      have hd' : wr.cell? ⟨b2, o2 + k, none⟩ = some (.int .u8 (bs.getD k 0)) := by rw [hbel.cell (p := ⟨b2, _, none⟩) (World.block_lt_of_cell? _ _ hd)]; exact hd
      generalize bs.getD k 0 = c at *
      clear hc hd
      go_wp2
      go_region
      go_wp2
      go_roundw
      case rel => exact ⟨k + 1, hlt, by go_num, hbel.drew⟩
      case measure => simp [intOf]; omega
    · go_wp2
      go_ret
      exact ⟨rfl, hbel⟩

set_option maxRecDepth 100000 in
set_option maxHeartbeats 1000000 in
theorem pieceIs_any (off n : Int) (x y : Value) (l : Option (List Int)) (w : World) (hx : IsLit w x l) (hy : IsLit w y l) :
    Calls Try.prog 16 #[.agg #[.int .i64 off, .int .i64 n, x], .agg #[.int .i64 off, .int .i64 n, y]] w fun e w' => e = .returned (.bool true) ∧ Below w.heap.size w w' := by
  have HX : Hid (IsLit w x l) := hx
  have HY : Hid (IsLit w y l) := hy
  obtain ⟨a, c, rfl, -⟩ := hx.shape
  obtain ⟨a2, c2, rfl, -⟩ := hy.shape
  clear hx hy
  generalize (l.getD []).length = len at *
  go_enter Try.func16, Try.ntmps16
  go_wp2
  have hb0 : Below w.heap.size w ((w.alloc (Obj.cells #[.int .i64 off, .int .i64 n, .slice a len c] 35)).alloc (Obj.cells #[.int .i64 off, .int .i64 n, .slice a2 len c2] 40)) := ((Below.refl _ _).alloc (Nat.le_refl _) _).alloc (by simp) _
  have e0 : ((w.alloc (Obj.cells #[.int .i64 off, .int .i64 n, .slice a len c] 35)).alloc (Obj.cells #[.int .i64 off, .int .i64 n, .slice a2 len c2] 40)).cell? ⟨w.heap.size, 0, none⟩ = some (.int .i64 off) := by go_simp
  have e1 : ((w.alloc (Obj.cells #[.int .i64 off, .int .i64 n, .slice a len c] 35)).alloc (Obj.cells #[.int .i64 off, .int .i64 n, .slice a2 len c2] 40)).cell? ⟨w.heap.size, 1, none⟩ = some (.int .i64 n) := by go_simp
  have e2 : ((w.alloc (Obj.cells #[.int .i64 off, .int .i64 n, .slice a len c] 35)).alloc (Obj.cells #[.int .i64 off, .int .i64 n, .slice a2 len c2] 40)).cell? ⟨w.heap.size, 2, none⟩ = some (.slice a len c) := by go_simp
  have f0 : ((w.alloc (Obj.cells #[.int .i64 off, .int .i64 n, .slice a len c] 35)).alloc (Obj.cells #[.int .i64 off, .int .i64 n, .slice a2 len c2] 40)).cell? ⟨w.heap.size + 1, 0, none⟩ = some (.int .i64 off) := by go_simp
  have f1 : ((w.alloc (Obj.cells #[.int .i64 off, .int .i64 n, .slice a len c] 35)).alloc (Obj.cells #[.int .i64 off, .int .i64 n, .slice a2 len c2] 40)).cell? ⟨w.heap.size + 1, 1, none⟩ = some (.int .i64 n) := by go_simp
  have f2 : ((w.alloc (Obj.cells #[.int .i64 off, .int .i64 n, .slice a len c] 35)).alloc (Obj.cells #[.int .i64 off, .int .i64 n, .slice a2 len c2] 40)).cell? ⟨w.heap.size + 1, 2, none⟩ = some (.slice a2 len c2) := by go_simp
  generalize (w.alloc (Obj.cells #[.int .i64 off, .int .i64 n, .slice a len c] 35)).alloc (Obj.cells #[.int .i64 off, .int .i64 n, .slice a2 len c2] 40) = W at *
  have g0 := fun x : Later W => x.cell e0
  have g1 := fun x : Later W => x.cell e1
  have g2 := fun x : Later W => x.cell e2
  have k0 := fun x : Later W => x.cell f0
  have k1 := fun x : Later W => x.cell f1
  have k2 := fun x : Later W => x.cell f2
  have HB : Hid (Below w.heap.size w W) := hb0
  clear hb0
  refine wp_region_later (by kernel_rfl) (by kernel_rfl) ?_
  have hne := Later.inh W
  repeat (go_big_quiet_step ((first | (go_at_call 24; exact Later.calls (pieceOff_any _ _ _ _ _ _)) | (go_at_call 22; exact Later.calls (pieceN_any _ _ _ _ _ _)))))
  refine wpQuiet_nil ?_
  rintro _ ⟨x, rfl⟩
  go_wp2_with fail
  refine wp_region_laterx (by kernel_rfl) (by kernel_rfl) ?_
  repeat (go_big_quiet_step ((first | (go_at_call 23; exact Later.calls (pieceLit_any _ _ _ _ _ _)) | (go_at_call 32; rename_i y; exact Later.calls (sameLit_any l _ _ _ (HX.out.below (HB.out.trans (y.below.mono HB.out.size))) (HY.out.below (HB.out.trans (y.below.mono HB.out.size))))))))
  refine wpQuiet_nil ?_
  rintro _ ⟨y, rfl⟩
  go_wp2_with fail
  go_ret
  exact ⟨rfl, HB.out.trans (y.below.mono HB.out.size)⟩
end Go.Proofs.Qxb6617398a
