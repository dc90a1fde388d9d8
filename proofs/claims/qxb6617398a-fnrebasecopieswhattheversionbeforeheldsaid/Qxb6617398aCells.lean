/-
  Cells: what the laws compare byte by byte. The walks of appendCells, cellsOfRuns, cellsOfPieces, sameCells.
-/
import Derived.Test.Qxb6617398aJoin
import Derived.Deep.RegionHeld3
namespace Go.Proofs.Qxb6617398a
open Go.RowKit

theorem info56 : (Try.prog.info? 56).map (fun i => (i.zero, i.size, i.bytes)) = some (some (.agg #[.bool false, .int .i64 0]), 2, 16) := by kernel_rfl

abbrev Cl := Bool × Int

/-- Byte j of a piece. -/
def cellAt (off : Int) (lit : Option (List Int)) (j : Nat) : Cl :=
  match lit with
  | some bs => (true, bs.getD j 0)
  | none => (false, off + j)

/-- The first n bytes of a piece. -/
def cellsAt (off : Int) (lit : Option (List Int)) (n : Nat) : List Cl := (List.range n).map (cellAt off lit)

theorem cellsAt_succ (off : Int) (lit : Option (List Int)) (n : Nat) : cellsAt off lit (n + 1) = cellsAt off lit n ++ [cellAt off lit n] := by
  simp [cellsAt, List.range_succ]

/-- The bytes of a piece. -/
def Pc.bytes (p : Pc) : List Cl := cellsAt p.off p.lit p.n.toNat

/-- The two memory cells of a cell. -/
def clCells (c : Cl) : List Value := [.bool c.1, .int .i64 c.2]
def flatC (cs : List Cl) : List Value := cs.flatMap clCells

theorem flatC_append (cs ds : List Cl) : flatC (cs ++ ds) = flatC cs ++ flatC ds := by simp [flatC]
theorem flatC_length (cs : List Cl) : (flatC cs).length = cs.length * 2 := by
  induction cs with
  | nil => rfl
  | cons c cs ih =>
    have : flatC (c :: cs) = clCells c ++ flatC cs := rfl
    rw [this, List.length_append, ih]
    simp [clCells]; omega

theorem flatC_get : ∀ (cs : List Cl) (j i : Nat), j < cs.length → i < 2 → (flatC cs)[j * 2 + i]? = (clCells (cs.getD j (false, 0)))[i]?
  | [], j, i, h, _ => by simp at h
  | c :: cs, 0, i, _, hi => by
    have : flatC (c :: cs) = clCells c ++ flatC cs := rfl
    rw [this, Nat.zero_mul, Nat.zero_add, List.getElem?_append_left (by simp [clCells]; omega)]
    rfl
  | c :: cs, j + 1, i, h, hi => by
    have : flatC (c :: cs) = clCells c ++ flatC cs := rfl
    rw [this, List.getElem?_append_right (by simp [clCells]; omega), show (j + 1) * 2 + i - (clCells c).length = j * 2 + i by simp [clCells]; omega, flatC_get cs j i (by simpa using h) hi]
    rfl

/-- The slice value v holds the cells cs. -/
def IsCls (w : World) (v : Value) (cs : List Cl) : Prop :=
  ∃ a cap, v = .slice a cs.length cap ∧ cs.length ≤ cap ∧ cap ≤ maxLen ∧
    ∀ j, j < cs.length → ∃ b off, a = some ⟨b, off, none⟩ ∧ w.cell? ⟨b, off + j * 2, none⟩ = some (.bool (cs.getD j (false, 0)).1) ∧ w.cell? ⟨b, off + j * 2 + 1, none⟩ = some (.int .i64 (cs.getD j (false, 0)).2)

theorem IsCls.below {w w' : World} {v : Value} {cs : List Cl} (h : IsCls w v cs) (hb : Below w.heap.size w w') : IsCls w' v cs := by
  obtain ⟨a, cap, h1, h2, h3, h4⟩ := h
  refine ⟨a, cap, h1, h2, h3, fun j hj => ?_⟩
  obtain ⟨b, off, g1, g2, g3⟩ := h4 j hj
  refine ⟨b, off, g1, ?_, ?_⟩
  · rw [hb.cell (p := ⟨b, _, none⟩) (World.block_lt_of_cell? _ _ g2)]; exact g2
  · rw [hb.cell (p := ⟨b, _, none⟩) (World.block_lt_of_cell? _ _ g3)]; exact g3

theorem IsCls.cell {w : World} {a : Option Addr} {n cap : Nat} {cs : List Cl} (h : IsCls w (.slice a n cap) cs) {j : Nat} (hj : j < cs.length) :
    ∃ b off, a = some ⟨b, off, none⟩ ∧ w.cell? ⟨b, off + j * 2, none⟩ = some (.bool (cs.getD j (false, 0)).1) ∧ w.cell? ⟨b, off + j * 2 + 1, none⟩ = some (.int .i64 (cs.getD j (false, 0)).2) := by
  obtain ⟨a', cap', h1, h2, h3, h4⟩ := h
  simp only [Value.slice.injEq] at h1
  obtain ⟨rfl, _, _⟩ := h1
  exact h4 j hj

/-- The slice value v, of the n cells cs, is a row of the call's own from block base on. -/
def OwnC (w : World) (base : Nat) (v : Value) (n : Nat) (cs : List Cl) : Prop := cs.length = n ∧ w.ownsRow base 56 2 v n (flatC cs)

theorem OwnC.nil (w : World) (base : Nat) : OwnC w base (.slice none 0 0) 0 [] := ⟨rfl, World.ownsRow_nil _ _ _ _⟩
theorem OwnC.alloc {w : World} {base : Nat} {v : Value} {n : Nat} {cs : List Cl} (h : OwnC w base v n cs) (o : Obj) : OwnC (w.alloc o) base v n cs := ⟨h.1, h.2.alloc o⟩

theorem OwnC.cls {w : World} {base : Nat} {v : Value} {n : Nat} {cs : List Cl} (h : OwnC w base v n cs) : IsCls w v cs := by
  obtain ⟨rfl, _, h⟩ := h
  rcases h with ⟨rfl, h0⟩ | ⟨g, cap, cur, rfl, _, hg, hn, hm, hs, ht⟩
  · have : cs = [] := List.eq_nil_of_length_eq_zero h0
    subst this
    exact ⟨none, 0, rfl, Nat.le_refl _, Nat.zero_le _, fun j hj => absurd hj (by simp)⟩
  · refine ⟨some ⟨g, 0, none⟩, cap, rfl, hn, hm, fun j hj => ⟨g, 0, rfl, ?_⟩⟩
    have key : ∀ i, i < 2 → w.cell? ⟨g, j * 2 + i, none⟩ = (clCells (cs.getD j (false, 0)))[i]? := by
      intro i hi
      rw [cell_of_row w g (j * 2 + i) cur 56 (0, 0) hg, ← flatC_get cs j i hj hi, ← ht, List.getElem?_take, if_pos (by omega)]
      simp
    have k0 := key 0 (by omega)
    have k1 := key 1 (by omega)
    simp only [clCells, Nat.add_zero] at k0 k1
    exact ⟨by rw [Nat.zero_add]; simpa using k0, by rw [Nat.zero_add]; simpa using k1⟩

/-- 'append(v, c)' of a cell. -/
theorem wpList_appC (w : World) {ops : Array Oper} {rest : List Oper} {o : Oper} {a : Act} {Q : Exit → Act → World → Prop} (hgd : o.guard = none) (s x : Operand)
    (ho : o.op = .call { callee := .builtin .append, args := #[s, x], argTypes := #[41, 41] })
    {base : Nat} {v : Value} {n : Nat} {cs : List Cl} (hs : a.eval s = v) (hown : OwnC w base v n cs)
    (b : Bool) (y : Int) (e2 : TypeId) {B : Nat} (hx : a.eval x = .slice (some ⟨B, 0, none⟩) 1 1) (hB : B = w.heap.size)
    (hn : n < 1048576) (hbase : base ≤ w.heap.size)
    (h : ∀ g cap w', OwnC w' base (.slice (some ⟨g, 0, none⟩) (n + 1) cap) (n + 1) (cs ++ [(b, y)]) → Below base w w' → wpList Try.prog ops Q rest (a.put o.dst (.slice (some ⟨g, 0, none⟩) (n + 1) cap)) w') :
    wpList Try.prog ops Q (o :: rest) a (w.alloc (.cells #[.bool b, .int .i64 y] e2)) := by
  obtain ⟨hl, hown⟩ := hown
  subst hB
  refine wpList_app w hgd s x 41 ho Try.underlying41 info56 rfl (by decide) hs hown [.bool b, .int .i64 y] e2 hx rfl ?_ hn (by decide) hbase ?_
  · intro u hu
    simp only [List.mem_cons, List.not_mem_nil, or_false] at hu
    rcases hu with rfl | rfl <;> rfl
  · intro g cap w' g1 g2 _
    refine h g cap w' ⟨by simp [hl], ?_⟩ g2
    rw [flatC_append]
    simpa [flatC, clCells] using g1

/-- What appendCells leaves. -/
def CellsPost (w : World) (base : Nat) (cs : List Cl) (e : Ending) (w' : World) : Prop := ∃ v' n', e = .returned v' ∧ OwnC w' base v' n' cs ∧ Below base w w'
theorem CellsPost.mk {w : World} {base : Nat} {cs : List Cl} {v' : Value} {w' : World} {n' : Nat} (h : OwnC w' base v' n' cs) (hb : Below base w w') : CellsPost w base cs (.returned v') w' := ⟨_, _, rfl, h, hb⟩

set_option maxRecDepth 100000 in
set_option maxHeartbeats 1000000 in
theorem appendCells_lit (cs : List Cl) (v : Value) (m : Nat) (off : Int) (n : Nat) (lv : Value) (bs : List Int) (w w0 : World) (base : Nat) (hown : OwnC w base v m cs) (hbase : base ≤ w.heap.size) (hw : w0.heap.size ≤ base) (hb0 : Below w0.heap.size w0 w)
    (hl : IsLit w0 lv (some bs)) (hn : n ≤ bs.length) (hmn : m + n ≤ 1048576) :
    Calls Try.prog 18 #[v, .int .i64 off, .int .i64 n, lv] w (CellsPost w base (cs ++ cellsAt off (some bs) n)) := by
  have HL : Hid (IsInts .u8 w0 lv bs) := hl.1
  obtain ⟨a, c, rfl⟩ := hl.2.1
  have HBt : Hid (∀ b ∈ bs, 0 ≤ b ∧ b ≤ 255) := hl.2.2
  have HO : Hid (OwnC w base v m cs) := hown
  have HB0 : Hid (Below w0.heap.size w0 w) := hb0
  have hcap : c ≤ 9223372036854775807 := by
    obtain ⟨a', c', h1, h2, h3, _⟩ := hl.1
    simp only [Value.slice.injEq] at h1
    obtain ⟨_, _, rfl⟩ := h1
    unfold maxLen at h3; omega
  clear hl hown hb0
  have hne := fun (w : World) a n c => run_neq_slice_nil_any (P := Try.prog) w 22 5 a n c 0 0 Try.underlying22
  go_enter Try.func18, Try.ntmps18
  go_wp2
  go_loopw [0, 9] (fun v i wr => ∃ k : Nat, k ≤ n ∧ i = .int .i64 k ∧ OwnC wr base v (m + k) (cs ++ cellsAt off (some bs) k) ∧ Below base w wr) (fun _ i _ => n - (intOf i).toNat)
  case atStart => exact ⟨0, Nat.zero_le _, rfl, by simpa [cellsAt] using HO.out, Below.refl _ _⟩
  case round =>
    obtain ⟨k, hk, rfl, ho, hbel⟩ := hrel
    have HO2 : Hid (OwnC wr base u0 (m + k) (cs ++ cellsAt off (some bs) k)) := ho
    by_cases hlt : k < n
    · obtain ⟨b1, o1, hab, hc⟩ := HL.out.cell (j := k) (by omega)
      simp only [Option.some.injEq] at hab
      subst hab
      have hb2 : Below w0.heap.size w0 wr := HB0.out.trans (hbel.mono (by omega))
      have hc' : wr.cell? ⟨b1, o1 + k, none⟩ = some (.int .u8 (bs.getD k 0)) := by rw [hb2.cell (p := ⟨b1, _, none⟩) (World.block_lt_of_cell? _ _ hc)]; exact hc
      have hbt := HBt.out (bs.getD k 0) (by simp [List.getD, show k < bs.length by omega])
      have HS : Hid (cellsAt off (some bs) (k + 1) = cellsAt off (some bs) k ++ [(true, bs.getD k 0)]) := cellsAt_succ _ _ _
      generalize bs.getD k 0 = y at *
      generalize cellsAt off (some bs) k = ds at *
      clear hc hb2 ho
      have hbs : base ≤ wr.heap.size := Nat.le_trans hbase hbel.size
      go_wp2_with (at_builtin; refine wpList_appC wr rfl _ _ rfl rfl HO2.out true y 56 rfl rfl (by omega) hbs ?_)
      intro g cp w1 hown1 hb1
      have HO3 : Hid (OwnC w1 base (.slice (some ⟨g, 0, none⟩) (m + k + 1) cp) (m + k + 1) (cs ++ (ds ++ [(true, y)]))) := hown1
      clear hown1
      go_wp2_with fail
      go_roundw
      case rel => exact ⟨k + 1, hlt, by go_num, by rw [HS.out]; exact HO3.out, hbel.trans hb1⟩
      case measure => simp [intOf]; omega
    · have hkn : k = n := by omega
      subst hkn
      clear ho
      go_wp2_with fail
      go_ret
      exact CellsPost.mk HO2.out hbel

set_option maxRecDepth 100000 in
set_option maxHeartbeats 1000000 in
theorem appendCells_run (cs : List Cl) (v : Value) (m : Nat) (off : Int) (n : Nat) (w : World) (base : Nat) (hown : OwnC w base v m cs) (hbase : base ≤ w.heap.size)
    (hoff : 0 ≤ off) (hoff2 : off ≤ 4611686018427387904) (hmn : m + n ≤ 1048576) :
    Calls Try.prog 18 #[v, .int .i64 off, .int .i64 n, .slice none 0 0] w (CellsPost w base (cs ++ cellsAt off none n)) := by
  have HO : Hid (OwnC w base v m cs) := hown
  clear hown
  have hne := fun (w : World) a n c => run_neq_slice_nil_any (P := Try.prog) w 22 5 a n c 0 0 Try.underlying22
  go_enter Try.func18, Try.ntmps18
  go_wp2
  go_loopw [0, 9] (fun v i wr => ∃ k : Nat, k ≤ n ∧ i = .int .i64 k ∧ OwnC wr base v (m + k) (cs ++ cellsAt off none k) ∧ Below base w wr) (fun _ i _ => n - (intOf i).toNat)
  case atStart => exact ⟨0, Nat.zero_le _, rfl, by simpa [cellsAt] using HO.out, Below.refl _ _⟩
  case round =>
    obtain ⟨k, hk, rfl, ho, hbel⟩ := hrel
    have HO2 : Hid (OwnC wr base u0 (m + k) (cs ++ cellsAt off none k)) := ho
    by_cases hlt : k < n
    · have HS : Hid (cellsAt off none (k + 1) = cellsAt off none k ++ [(false, off + k)]) := cellsAt_succ _ _ _
      generalize cellsAt off none k = ds at *
      clear ho
      have hbs : base ≤ wr.heap.size := Nat.le_trans hbase hbel.size
      go_wp2_with (at_builtin; refine wpList_appC wr rfl _ _ rfl rfl HO2.out false (off + k) 56 rfl rfl (by omega) hbs ?_)
      intro g cp w1 hown1 hb1
      have HO3 : Hid (OwnC w1 base (.slice (some ⟨g, 0, none⟩) (m + k + 1) cp) (m + k + 1) (cs ++ (ds ++ [(false, off + k)]))) := hown1
      clear hown1
      go_wp2_with fail
      go_roundw
      case rel => exact ⟨k + 1, hlt, by go_num, by rw [HS.out]; exact HO3.out, hbel.trans hb1⟩
      case measure => simp [intOf]; omega
    · have hkn : k = n := by omega
      subst hkn
      clear ho
      go_wp2_with fail
      go_ret
      exact CellsPost.mk HO2.out hbel

/-- What the laws ask of a piece: its length is small, a literal is as long as said, a run's offset is small. -/
def WF (p : Pc) : Prop := 0 ≤ p.n ∧ p.n ≤ 65536 ∧ (p.lit = none → 0 ≤ p.off ∧ p.off ≤ 2305843009213759487) ∧ ∀ bs, p.lit = some bs → (bs.length : Int) = p.n

/-- The contract of appendCells at a whole piece. -/
theorem appendCells_any (cs : List Cl) (v : Value) (m : Nat) (p : Pc) (w w0 : World) (base : Nat) (hown : OwnC w base v m cs) (hbase : base ≤ w.heap.size) (hw : w0.heap.size ≤ base) (hb0 : Below w0.heap.size w0 w)
    (hl : IsLit w0 p.lv p.lit) (hwf : WF p) (hmn : m + p.n.toNat ≤ 1048576) :
    Calls Try.prog 18 #[v, .int .i64 p.off, .int .i64 p.n, p.lv] w (CellsPost w base (cs ++ p.bytes)) := by
  obtain ⟨off, n, lv, lit⟩ := p
  obtain ⟨h1, h2, h3, h4⟩ := hwf
  simp only at *
  obtain ⟨k, rfl⟩ := Int.eq_ofNat_of_zero_le h1
  simp only [Int.toNat_natCast] at hmn
  have e : (⟨off, (k : Int), lv, lit⟩ : Pc).bytes = cellsAt off lit k := by simp [Pc.bytes]
  rw [e]
  cases lit with
  | none =>
    have hv : lv = .slice none 0 0 := hl
    subst hv
    have := h3 rfl
    exact appendCells_run cs v m off k w base hown hbase this.1 (by omega) hmn
  | some bs =>
    have := h4 bs rfl
    exact appendCells_lit cs v m off k lv bs w w0 base hown hbase hw hb0 hl (by omega) hmn
end Go.Proofs.Qxb6617398a
