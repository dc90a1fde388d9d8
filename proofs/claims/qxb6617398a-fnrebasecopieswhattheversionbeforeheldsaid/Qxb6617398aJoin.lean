/-
  The walks of join and ZZJoin.
-/
import Derived.Test.Qxb6617398aSmall
namespace Go.Proofs.Qxb6617398a
open Go.RowKit

theorem info35 : (Try.prog.info? 35).map (fun i => (i.zero, i.size, i.bytes)) = some (some (.agg #[.int .i64 0, .int .i64 0, .slice none 0 0]), 3, 40) := by kernel_rfl

/-- p joined to ps. -/
def joinP (ps : List Pc) (p : Pc) : List Pc :=
  if p.n = 0 then ps else
  match ps.getLast? with
  | some l => if l.lit = none ∧ p.lit = none ∧ l.off + l.n = p.off then ps.dropLast ++ [{ l with n := l.n + p.n }] else ps ++ [p]
  | none => ps ++ [p]

theorem joinP_zero (ps : List Pc) (p : Pc) (h : p.n = 0) : joinP ps p = ps := by simp [joinP, h]
theorem joinP_nil (p : Pc) (h : ¬ p.n = 0) : joinP [] p = [p] := by simp [joinP, h]
theorem joinP_merge (qs : List Pc) (l p : Pc) (h : ¬ p.n = 0) (hc : l.lit = none ∧ p.lit = none ∧ l.off + l.n = p.off) : joinP (qs ++ [l]) p = qs ++ [{ l with n := l.n + p.n }] := by simp [joinP, h, hc]
theorem joinP_snoc (qs : List Pc) (l p : Pc) (h : ¬ p.n = 0) (hc : ¬ (l.lit = none ∧ p.lit = none ∧ l.off + l.n = p.off)) : joinP (qs ++ [l]) p = qs ++ [l] ++ [p] := by simp [joinP, h, hc]

/-- What the contract asks of the numbers of a piece: sums do not wrap. -/
def Bd (p : Pc) : Prop := (p.lit = none → 0 ≤ p.off ∧ p.off ≤ 4611686018427387904) ∧ 0 ≤ p.n ∧ p.n ≤ 1099511627776

/-- The last piece's own row in memory. -/
theorem OwnP.lastRow {e : TypeId} {w : World} {base : Nat} {v : Value} {n : Nat} {qs : List Pc} {l : Pc} (h : OwnP e w base v n (qs ++ [l])) :
    ∃ g cap cur, v = .slice (some ⟨g, 0, none⟩) (qs.length + 1) cap ∧ n = qs.length + 1 ∧ base ≤ g ∧ g < w.heap.size ∧ qs.length + 1 ≤ cap ∧ cap ≤ maxLen ∧ w.heap[g]? = some (.cells cur e (0, 0)) ∧ cur.size = cap * 3 ∧ cur.toList.take ((qs.length + 1) * 3) = flat (qs ++ [l]) := by
  obtain ⟨hl, hx, hr⟩ := h
  have hn : n = qs.length + 1 := by rw [← hl]; simp
  subst hn
  rcases hr with ⟨_, h0⟩ | ⟨g, cap, cur, hv, hb, hg, hn, hm, hs, ht⟩
  · omega
  · exact ⟨g, cap, cur, hv, rfl, hb, (Array.getElem?_eq_some_iff.1 hg).1, hn, hm, hg, hs, ht⟩

/-- The last piece's length turned. -/
theorem OwnP.setLast {e : TypeId} {w : World} {base : Nat} {qs : List Pc} {l : Pc} {g cap : Nat} (h : OwnP e w base (.slice (some ⟨g, 0, none⟩) (qs.length + 1) cap) (qs.length + 1) (qs ++ [l])) (m : Int) :
    OwnP e (w.setCell ⟨g, qs.length * 3 + 1, none⟩ (.int .i64 m)) base (.slice (some ⟨g, 0, none⟩) (qs.length + 1) cap) (qs.length + 1) (qs ++ [{ l with n := m }]) := by
  obtain ⟨g', cap', cur, hv, _, hb, hlt, hn, hm, hg, hs, ht⟩ := h.lastRow
  simp only [Value.slice.injEq, Option.some.injEq, Addr.mk.injEq, true_and, and_true] at hv
  obtain ⟨rfl, rfl⟩ := hv
  refine ⟨by simp, by rw [flat_length]; simp, .inr ⟨g, cap, cur.setIfInBounds (qs.length * 3 + 1) (.int .i64 m), rfl, hb, ?_, hn, hm, by simpa using hs, ?_⟩⟩
  · simp only [World.setCell, Array.getElem?_modify, if_true, hg]
    rfl
  · rw [Array.toList_setIfInBounds, List.take_set, ht, flat_append, flat_append]
    have hl3 : (flat qs).length = qs.length * 3 := flat_length qs
    rw [List.set_append, if_neg (by omega), hl3, show qs.length * 3 + 1 - qs.length * 3 = 1 by omega]
    rfl

theorem OwnP.alloc {e : TypeId} {w : World} {base : Nat} {v : Value} {n : Nat} {ps : List Pc} (h : OwnP e w base v n ps) (o : Obj) : OwnP e (w.alloc o) base v n ps := ⟨h.1, h.2.alloc o⟩
theorem OwnP.drewN {e : TypeId} {w : World} {base : Nat} {v : Value} {n : Nat} {ps : List Pc} (h : OwnP e w base v n ps) (m : Nat) : OwnP e (w.drewN m) base v n ps := ⟨h.1, h.2⟩
theorem below_drewN' {B : Nat} {a w : World} (h : Below B a w) (m : Nat) : Below B a (w.drewN m) := ⟨h.os, h.tape, h.output, h.size, h.block⟩

/-- What join leaves: the pieces ps, a row of the call's own. -/
def JoinPost (w : World) (base : Nat) (ps : List Pc) (e : Ending) (w' : World) : Prop := ∃ v' n', e = .returned v' ∧ OwnP 35 w' base v' n' ps ∧ Below base w w'
theorem JoinPost.mk {w : World} {base : Nat} {ps : List Pc} {v' : Value} {w' : World} {n' : Nat} (h : OwnP 35 w' base v' n' ps) (hb : Below base w w') : JoinPost w base ps (.returned v') w' := ⟨_, _, rfl, h, hb⟩

set_option maxRecDepth 100000 in
set_option maxHeartbeats 1000000 in
theorem join_zero (ps : List Pc) (v : Value) (n : Nat) (p : Pc) (w w0 : World) (base : Nat) (hp0 : IsLit w0 p.lv p.lit) (hown : OwnP 35 w base v n ps) (hbase : base ≤ w.heap.size) (h0 : p.n = 0) :
    Calls Try.prog 31 #[v, p.val] w (JoinPost w base ps) := by
  obtain ⟨a, c, hlv, -⟩ := hp0.shape
  have HO : Hid (OwnP 35 w base v n ps) := hown
  clear hp0 hown
  unfold Pc.val
  rw [hlv, h0]
  generalize (p.lit.getD []).length = len
  generalize p.off = off
  clear hlv h0
  go_enter Try.func31, Try.ntmps31
  go_wp2
  go_ret
  exact JoinPost.mk (HO.out.alloc _) ((Below.refl _ _).alloc hbase _)

set_option maxRecDepth 100000 in
set_option maxHeartbeats 1000000 in
theorem join_first (v : Value) (n : Nat) (p : Pc) (w w0 : World) (base : Nat) (hp0 : IsLit w0 p.lv p.lit) (hown : OwnP 35 w base v n []) (hbase : base ≤ w.heap.size) (h0 : ¬ p.n = 0) :
    Calls Try.prog 31 #[v, p.val] w (JoinPost w base [p]) := by
  obtain ⟨a, c, hlv, -⟩ := hp0.shape
  have hone := hp0.one
  obtain ⟨off, pn, lv, lit⟩ := p
  simp only [Pc.val] at *
  subst hlv
  have HO : Hid (OwnP 35 w base v n []) := hown
  obtain ⟨va, vc, rfl, -⟩ := hown.pcs
  have hn0 : n = 0 := by have := hown.1; simpa using this.symm
  subst hn0
  simp only [List.length_nil] at *
  generalize (lit.getD []).length = len at *
  clear hp0 hown
  have hpn : (pn == 0) = false := by simpa using h0
  clear h0
  go_enter Try.func31, Try.ntmps31
  go_wp2
  go_quiet (fail)
  have HO2 := (HO.out.alloc (Obj.cells #[.int .i64 off, .int .i64 pn, .slice a len c] 35)).drewN nq
  go_wp2_with (at_builtin; refine wpList_appP _ rfl _ _ 31 rfl Try.underlying31 info35 rfl rfl HO2 ⟨off, pn, .slice a len c, lit⟩ 35 rfl (by simp) hone (by omega) (by decide) (by simp; omega) ?_)
  intro g cp w1 hown1 hb1 _
  have HO3 : Hid (OwnP 35 w1 base (.slice (some ⟨g, 0, none⟩) (0 + 1) cp) (0 + 1) ([] ++ [⟨off, pn, .slice a len c, lit⟩])) := hown1
  have HB : Hid (Below base w w1) := (below_drewN' ((Below.refl base w).alloc hbase _) nq).trans hb1
  clear hown1 hb1 HO2
  go_wp2_with fail
  go_ret
  exact JoinPost.mk HO3.out HB.out

set_option maxRecDepth 100000 in
set_option maxHeartbeats 2000000 in
theorem join_last (qs : List Pc) (l : Pc) (v : Value) (n : Nat) (p : Pc) (w w0 : World) (base : Nat) (hp0 : IsLit w0 p.lv p.lit) (hl0 : IsLit w0 l.lv l.lit) (hbd : Bd l) (hbp : Bd p) (hown : OwnP 35 w base v n (qs ++ [l])) (hn : n < 1048576)
    (hbase : base ≤ w.heap.size) (h0 : ¬ p.n = 0) :
    Calls Try.prog 31 #[v, p.val] w (JoinPost w base (joinP (qs ++ [l]) p)) := by
  obtain ⟨a, c, hlv, ha, -⟩ := hp0.shape
  obtain ⟨a2, c2, hlv2, ha2, -⟩ := hl0.shape
  have hone := hp0.one
  obtain ⟨g, cap, cur, rfl, rfl, hbg, hglt, hncap, hcapm, hg, hs, ht⟩ := hown.lastRow
  have HO : Hid (OwnP 35 w base (.slice (some ⟨g, 0, none⟩) (qs.length + 1) cap) (qs.length + 1) (qs ++ [l])) := hown
  have hcl : ∀ i, i < 3 → w.cell? ⟨g, qs.length * 3 + i, none⟩ = l.cells[i]? := by
    intro i hi
    rw [cell_of_row w g (qs.length * 3 + i) cur 35 (0, 0) hg]
    have := flat_get (qs ++ [l]) qs.length i (by simp) hi
    rw [← ht, List.getElem?_take, if_pos (by omega)] at this
    have e : (qs ++ [l]).getD qs.length Pc.nil = l := by simp [List.getD]
    rw [e] at this
    simpa using this
  have c0 := hcl 0 (by omega)
  have c1 := hcl 1 (by omega)
  have c2' := hcl 2 (by omega)
  have hfr : ∀ o, w.frozen? ⟨g, o, none⟩ = false := by intro o; simp [World.frozen?, hg]
  obtain ⟨off, pn, lv, lit⟩ := p
  obtain ⟨loff, ln, llv, llit⟩ := l
  simp only [Pc.val, Pc.cells] at *
  subst hlv hlv2
  simp only [Nat.add_zero, List.getElem?_cons_zero, List.getElem?_cons_succ] at c0 c1 c2'
  generalize (lit.getD []).length = len at *
  generalize (llit.getD []).length = len2 at *
  unfold maxLen at hcapm
  have hpn : (pn == 0) = false := by simpa using h0
  have hb2 := hbd.2
  have hbp2 := hbp.2
  simp only at hb2 hbp2
  have HJ0 : Hid (¬ pn = 0) := h0
  clear hp0 hl0 hown hcl hg hs ht h0
  have hnil := fun (w : World) a n c => Lib.run_eql_slice_nil (P := Try.prog) w 22 5 a n c 0 0 Try.underlying22
  have d0 : ∀ o, (w.alloc o).cell? ⟨g, qs.length * 3, none⟩ = some (.int .i64 loff) := fun o => by rw [World.cell?_alloc_lt _ _ _ (by exact hglt)]; exact c0
  have d1 : ∀ o, (w.alloc o).cell? ⟨g, qs.length * 3 + 1, none⟩ = some (.int .i64 ln) := fun o => by rw [World.cell?_alloc_lt _ _ _ (by exact hglt)]; exact c1
  have d2 : ∀ o, (w.alloc o).cell? ⟨g, qs.length * 3 + 2, none⟩ = some (.slice a2 len2 c2) := fun o => by rw [World.cell?_alloc_lt _ _ _ (by exact hglt)]; exact c2'
  cases llit with
  | some bs =>
    simp only [Option.isNone_some] at ha2
    have HJ : Hid (joinP (qs ++ [⟨loff, ln, .slice a2 len2 c2, some bs⟩]) ⟨off, pn, .slice a len c, lit⟩ = qs ++ [⟨loff, ln, .slice a2 len2 c2, some bs⟩, ⟨off, pn, .slice a len c, lit⟩]) := (joinP_snoc _ _ _ HJ0.out (fun h => by cases h.1)).trans (by simp)
    rw [HJ.out]
    go_enter Try.func31, Try.ntmps31
    go_wp2_with fail
    go_quiet (fail)
    have HO2 := (HO.out.alloc (Obj.cells #[.int .i64 off, .int .i64 pn, .slice a len c] 35)).drewN nq
    clear d0 d1 d2 c0 c1 c2' hfr hnil
    go_wp2_with (at_builtin; refine wpList_appP _ rfl _ _ 31 rfl Try.underlying31 info35 rfl rfl HO2 ⟨off, pn, .slice a len c, lit⟩ 35 rfl (by simp) hone (by omega) (by decide) (by simp; omega) ?_)
    intro g1 cp w1 hown1 hb1 _
    have HO3 : Hid (OwnP 35 w1 base (.slice (some ⟨g1, 0, none⟩) (qs.length + 1 + 1) cp) (qs.length + 1 + 1) (qs ++ [⟨loff, ln, .slice a2 len2 c2, some bs⟩, ⟨off, pn, .slice a len c, lit⟩])) := hown1
    have HB : Hid (Below base w w1) := (below_drewN' ((Below.refl base w).alloc hbase _) nq).trans hb1
    clear hown1 hb1 HO2
    go_wp2_with fail
    go_ret
    exact JoinPost.mk HO3.out HB.out
  | none =>
    simp only [Option.isNone_none] at ha2
    have hb1' := hbd.1 rfl
    simp only at hb1'
    cases lit with
    | some bs =>
      simp only [Option.isNone_some] at ha
      have HJ : Hid (joinP (qs ++ [⟨loff, ln, .slice a2 len2 c2, none⟩]) ⟨off, pn, .slice a len c, some bs⟩ = qs ++ [⟨loff, ln, .slice a2 len2 c2, none⟩, ⟨off, pn, .slice a len c, some bs⟩]) := (joinP_snoc _ _ _ HJ0.out (fun h => by cases h.2.1)).trans (by simp)
      rw [HJ.out]
      go_enter Try.func31, Try.ntmps31
      go_wp2_with fail
      go_quiet (fail)
      have HO2 := (HO.out.alloc (Obj.cells #[.int .i64 off, .int .i64 pn, .slice a len c] 35)).drewN nq
      clear d0 d1 d2 c0 c1 c2' hfr hnil
      go_wp2_with (at_builtin; refine wpList_appP _ rfl _ _ 31 rfl Try.underlying31 info35 rfl rfl HO2 ⟨off, pn, .slice a len c, some bs⟩ 35 rfl (by simp) hone (by omega) (by decide) (by simp; omega) ?_)
      intro g1 cp w1 hown1 hb1 _
      have HO3 : Hid (OwnP 35 w1 base (.slice (some ⟨g1, 0, none⟩) (qs.length + 1 + 1) cp) (qs.length + 1 + 1) (qs ++ [⟨loff, ln, .slice a2 len2 c2, none⟩, ⟨off, pn, .slice a len c, some bs⟩])) := hown1
      have HB : Hid (Below base w w1) := (below_drewN' ((Below.refl base w).alloc hbase _) nq).trans hb1
      clear hown1 hb1 HO2
      go_wp2_with fail
      go_ret
      exact JoinPost.mk HO3.out HB.out
    | none =>
      simp only [Option.isNone_none] at ha
      by_cases heq : loff + ln = off
      · have HJ : Hid (joinP (qs ++ [⟨loff, ln, .slice a2 len2 c2, none⟩]) ⟨off, pn, .slice a len c, none⟩ = qs ++ [⟨loff, ln + pn, .slice a2 len2 c2, none⟩]) := joinP_merge _ _ _ HJ0.out ⟨rfl, rfl, heq⟩
        rw [HJ.out]
        have heq' : (loff + ln == off) = true := by simpa using heq
        clear heq
        go_enter Try.func31, Try.ntmps31
        go_wp2_with fail
        go_quiet (fail)
        go_wp2_with fail
        have hfa : ∀ o x, (w.alloc o).frozen? ⟨g, x, none⟩ = false := fun o x => by rw [World.frozen?_alloc_old _ _ _ (by simp; omega)]; exact hfr x
        go_region
        have HO2 := ((HO.out.alloc (Obj.cells #[.int .i64 off, .int .i64 pn, .slice a len c] 35)).drewN (nq + 1)).setLast (ln + pn)
        go_wp2_with fail
        go_ret
        refine JoinPost.mk (n' := qs.length + 1) HO2 ?_
        exact Below.setCell (p := ⟨g, qs.length * 3 + 1, none⟩) (below_drewN' ((Below.refl base w).alloc hbase _) (nq + 1)) hbg _
      · have HJ : Hid (joinP (qs ++ [⟨loff, ln, .slice a2 len2 c2, none⟩]) ⟨off, pn, .slice a len c, none⟩ = qs ++ [⟨loff, ln, .slice a2 len2 c2, none⟩, ⟨off, pn, .slice a len c, none⟩]) := (joinP_snoc _ _ _ HJ0.out (fun h => heq h.2.2)).trans (by simp)
        rw [HJ.out]
        have heq' : (loff + ln == off) = false := by simpa using heq
        clear heq
        go_enter Try.func31, Try.ntmps31
        go_wp2_with fail
        go_quiet (fail)
        have HO2 := (HO.out.alloc (Obj.cells #[.int .i64 off, .int .i64 pn, .slice a len c] 35)).drewN nq
        clear d0 d1 d2 c0 c1 c2' hfr hnil
        go_wp2_with (at_builtin; refine wpList_appP _ rfl _ _ 31 rfl Try.underlying31 info35 rfl rfl HO2 ⟨off, pn, .slice a len c, none⟩ 35 rfl (by simp) hone (by omega) (by decide) (by simp; omega) ?_)
        intro g1 cp w1 hown1 hb1 _
        have HO3 : Hid (OwnP 35 w1 base (.slice (some ⟨g1, 0, none⟩) (qs.length + 1 + 1) cp) (qs.length + 1 + 1) (qs ++ [⟨loff, ln, .slice a2 len2 c2, none⟩, ⟨off, pn, .slice a len c, none⟩])) := hown1
        have HB : Hid (Below base w w1) := (below_drewN' ((Below.refl base w).alloc hbase _) nq).trans hb1
        clear hown1 hb1 HO2
        go_wp2_with fail
        go_ret
        exact JoinPost.mk HO3.out HB.out

/-- The contract of join. -/
theorem join_any (ps : List Pc) (v : Value) (n : Nat) (p : Pc) (w w0 : World) (base : Nat) (hp0 : IsLit w0 p.lv p.lit) (hl0 : Lits w0 ps) (hbd : ∀ q ∈ ps, Bd q) (hbp : Bd p) (hown : OwnP 35 w base v n ps) (hn : n < 1048576) (hbase : base ≤ w.heap.size) :
    Calls Try.prog 31 #[v, p.val] w (JoinPost w base (joinP ps p)) := by
  by_cases h0 : p.n = 0
  · rw [joinP_zero ps p h0]
    exact join_zero ps v n p w w0 base hp0 hown hbase h0
  · by_cases hps : ps = []
    · subst hps
      rw [joinP_nil p h0]
      exact join_first v n p w w0 base hp0 hown hbase h0
    · obtain ⟨qs, l, rfl⟩ : ∃ qs l, ps = qs ++ [l] := ⟨ps.dropLast, ps.getLast hps, (List.dropLast_concat_getLast hps).symm⟩
      exact join_last qs l v n p w w0 base hp0 (hl0 l (by simp)) (hbd l (by simp)) hbp hown hn hbase h0

set_option maxHeartbeats 400000 in
theorem zzJoin_any (ps : List Pc) (v : Value) (n : Nat) (p : Pc) (w w0 : World) (base : Nat) (hp0 : IsLit w0 p.lv p.lit) (hl0 : Lits w0 ps) (hbd : ∀ q ∈ ps, Bd q) (hbp : Bd p) (hown : OwnP 35 w base v n ps) (hn : n < 1048576) (hbase : base ≤ w.heap.size) :
    Calls Try.prog 12 #[v, p.val] w (JoinPost w base (joinP ps p)) := by
  have HC : Hid (∀ w, OwnP 35 w base v n ps → base ≤ w.heap.size → Calls Try.prog 31 #[v, p.val] w (JoinPost w base (joinP ps p))) := fun w h hb => join_any ps v n p w w0 base hp0 hl0 hbd hbp h hn hb
  obtain ⟨a, c, hlv, -⟩ := hp0.shape
  have HO : Hid (OwnP 35 w base v n ps) := hown
  generalize joinP ps p = js at *
  unfold Pc.val at *
  rw [hlv] at *
  generalize (p.lit.getD []).length = len at *
  generalize p.off = off at *
  generalize p.n = pn at *
  clear hp0 hl0 hbd hbp hown
  go_enter Try.func12, Try.ntmps12
  go_wp2_with fail
  refine (HC.out _ (HO.out.alloc _) (by simp; omega)).mono ?_
  rintro e w2 ⟨v2, n2, rfl, ho2, hb2⟩
  have HO2 : Hid (OwnP 35 w2 base v2 n2 js) := ho2
  clear ho2
  go_wp2_with fail
  go_ret
  exact JoinPost.mk HO2.out (((Below.refl base w).alloc hbase _).trans hb2)
end Go.Proofs.Qxb6617398a
