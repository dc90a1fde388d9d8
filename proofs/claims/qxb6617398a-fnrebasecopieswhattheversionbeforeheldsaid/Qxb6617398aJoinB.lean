/-
  append and join at slices of up to 64 Mi pieces.
-/
import Derived.Test.Qxb6617398aJoin
namespace Go.Proofs.Qxb6617398a
open Go.RowKit

/-- What the contract asks of the numbers of a piece: sums do not wrap. -/
def Bd2 (p : Pc) : Prop := (p.lit = none → 0 ≤ p.off ∧ p.off + p.n ≤ 4611686018427387904) ∧ 0 ≤ p.n ∧ p.n ≤ 4611686018427387904

/-- 'append(v, x)', v a row of the call's own, x laid just before in a block of its own. -/
theorem wpList_appB {P : Program} (w : World) {ops : Array Oper} {rest : List Oper} {o : Oper} {a : Act} {Q : Exit → Act → World → Prop} (hgd : o.guard = none) (s x : Operand) (t : TypeId)
    (ho : o.op = .call { callee := .builtin .append, args := #[s, x], argTypes := #[t, t] })
    {base : Nat} {e : TypeId} {z : Value} {size bytes : Nat} (ht : P.underlying t = some (.slice e)) (hinfo : (P.info? e).map (fun i => (i.zero, i.size, i.bytes)) = some (some z, size, bytes))
    (hzs : z.cells.size = size) (hsz : 0 < size)
    {v : Value} {n : Nat} {xs : List Value} (hs : a.eval s = v) (hown : w.ownsRow base e size v n xs)
    (news : List Value) (e2 : TypeId) (hx : a.eval x = .slice (some ⟨w.heap.size, 0, none⟩) 1 1) (hl : news.length = size) (h1 : ∀ u ∈ news, u.oneCell' = true)
    (hn : n < 1073741824) (hby : bytes ≤ 65536) (hbase : base ≤ w.heap.size)
    (h : ∀ g cap w', w'.ownsRow base e size (.slice (some ⟨g, 0, none⟩) (n + 1) cap) (n + 1) (xs ++ news) → Below base w w' → w.grownBy w' v.ownBlock → wpList P ops Q rest (a.put o.dst (.slice (some ⟨g, 0, none⟩) (n + 1) cap)) w') :
    wpList P ops Q (o :: rest) a (w.alloc (.cells news.toArray e2)) := by
  obtain ⟨i, hi, hz, hz1, hz2⟩ := info_parts hinfo
  refine wpList_append_own _ hgd s x t ho base e i z size bytes ht hi hz hz1 hz2 hzs hsz v n xs hs (hown.alloc _) ⟨w.heap.size, 0, none⟩ 1 1 news hx (by simpa using hl) ?_ h1 ?_ ?_ ?_ ?_
  · intro j u hu
    rw [Addr.add_lit]
    rw [Nat.zero_add, World.cell?_alloc_new]
    simpa using hu
  · unfold maxLen; omega
  · have := Nat.mul_le_mul (show n + 1 ≤ 1073741824 by omega) hby
    omega
  · simp; omega
  · intro v' w' hown' hgrow _
    have hlt := hown.lt
    have g2 : w.grownBy w' v.ownBlock := by
      refine ⟨hgrow.os, hgrow.tape, hgrow.output, Nat.le_trans (by simp) hgrow.size, fun k hk hne => ?_⟩
      rw [hgrow.block k (by simp; omega) hne]
      exact Below.heap_alloc _ _ _ hk
    have hb : Below base w w' := (Below.refl base w).grown g2 hbase (fun k hk => (hlt k hk).1)
    rcases hown'.2 with ⟨_, h0⟩ | ⟨g, cap, cur, rfl, _⟩
    · omega
    · exact h g cap w' hown' hb g2

/-- 'append(v, p)' of a piece. -/
theorem wpList_appPB {P : Program} (w : World) {ops : Array Oper} {rest : List Oper} {o : Oper} {a : Act} {Q : Exit → Act → World → Prop} (hgd : o.guard = none) (s x : Operand) (t : TypeId)
    (ho : o.op = .call { callee := .builtin .append, args := #[s, x], argTypes := #[t, t] })
    {base : Nat} {e : TypeId} {bytes : Nat} {z : Value} (ht : P.underlying t = some (.slice e)) (hinfo : (P.info? e).map (fun i => (i.zero, i.size, i.bytes)) = some (some z, 3, bytes)) (hz : z.cells.size = 3)
    {v : Value} {n : Nat} {ps : List Pc} (hs : a.eval s = v) (hown : OwnP e w base v n ps)
    (p : Pc) (e2 : TypeId) {B : Nat} (hx : a.eval x = .slice (some ⟨B, 0, none⟩) 1 1) (hB : B = w.heap.size) (h1 : p.lv.oneCell' = true)
    (hn : n < 1073741824) (hby : bytes ≤ 65536) (hbase : base ≤ w.heap.size)
    (h : ∀ g cap w', OwnP e w' base (.slice (some ⟨g, 0, none⟩) (n + 1) cap) (n + 1) (ps ++ [p]) → Below base w w' → w.grownBy w' v.ownBlock → wpList P ops Q rest (a.put o.dst (.slice (some ⟨g, 0, none⟩) (n + 1) cap)) w') :
    wpList P ops Q (o :: rest) a (w.alloc (.cells #[.int .i64 p.off, .int .i64 p.n, p.lv] e2)) := by
  obtain ⟨hl, hown⟩ := hown
  subst hB
  refine wpList_appB w hgd s x t ho ht hinfo hz (by decide) hs hown p.cells e2 hx rfl ?_ hn hby hbase ?_
  · intro u hu
    simp only [Pc.cells, List.mem_cons, List.not_mem_nil, or_false] at hu
    rcases hu with rfl | rfl | rfl
    · rfl
    · rfl
    · exact h1
  · intro g cap w' g1 g2 g3
    refine h g cap w' ⟨by simp [hl], ?_⟩ g2 g3
    rw [flat_append]
    simpa [flat] using g1

set_option maxRecDepth 100000 in
set_option maxHeartbeats 2000000 in
theorem join_lastB (qs : List Pc) (l : Pc) (v : Value) (n : Nat) (p : Pc) (w w0 : World) (base : Nat) (hp0 : IsLit w0 p.lv p.lit) (hl0 : IsLit w0 l.lv l.lit) (hbd : Bd2 l) (hbp : Bd2 p) (hown : OwnP 35 w base v n (qs ++ [l])) (hn : n < 1073741824)
    (hbase : base ≤ w.heap.size) (h0 : ¬ p.n = 0) :
    Calls Try.prog 31 #[v, p.val] w (JoinPost w base (joinP (qs ++ [l]) p)) := by
  obtain ⟨a, c, hlv, ha, -⟩ := hp0.shape
  obtain ⟨a2, c2, hlv2, ha2, -⟩ := hl0.shape
  have hone := hp0.one
  obtain ⟨g, cap, cur, rfl, rfl, hbg, hglt, hncap, hcapm, hg, hs, ht⟩ := hown.lastRow
  have HO : Hid (OwnP 35 w base (.slice (some ⟨g, 0, none⟩) (qs.length + 1) cap) (qs.length + 1) (qs ++ [l])) := hown
  have hcl : ∀ i, i < 3 → w.cell? ⟨g, qs.length * 3 + i, none⟩ = l.cells[i]? := by
    intro i hi
    rw [cell_of_row w g (qs.length * 3 + i) cur 35 (0, 0) hg]
    have := flat_get (qs ++ [l]) qs.length i (by simp) hi
    rw [← ht, List.getElem?_take, if_pos (by omega)] at this
    have e : (qs ++ [l]).getD qs.length Pc.nil = l := by simp [List.getD]
    rw [e] at this
    simpa using this
  have c0 := hcl 0 (by omega)
  have c1 := hcl 1 (by omega)
  have c2' := hcl 2 (by omega)
  have hfr : ∀ o, w.frozen? ⟨g, o, none⟩ = false := by intro o; simp [World.frozen?, hg]
  obtain ⟨off, pn, lv, lit⟩ := p
  obtain ⟨loff, ln, llv, llit⟩ := l
  simp only [Pc.val, Pc.cells] at *
  subst hlv hlv2
  simp only [Nat.add_zero, List.getElem?_cons_zero, List.getElem?_cons_succ] at c0 c1 c2'
  generalize (lit.getD []).length = len at *
  generalize (llit.getD []).length = len2 at *
  unfold maxLen at hcapm
  have hpn : (pn == 0) = false := by simpa using h0
  have hb2 := hbd.2
  have hbp2 := hbp.2
  simp only at hb2 hbp2
  have HJ0 : Hid (¬ pn = 0) := h0
  clear hp0 hl0 hown hcl hg hs ht h0
  have hnil := fun (w : World) a n c => Lib.run_eql_slice_nil (P := Try.prog) w 22 5 a n c 0 0 Try.underlying22
  have d0 : ∀ o, (w.alloc o).cell? ⟨g, qs.length * 3, none⟩ = some (.int .i64 loff) := fun o => by rw [World.cell?_alloc_lt _ _ _ (by exact hglt)]; exact c0
  have d1 : ∀ o, (w.alloc o).cell? ⟨g, qs.length * 3 + 1, none⟩ = some (.int .i64 ln) := fun o => by rw [World.cell?_alloc_lt _ _ _ (by exact hglt)]; exact c1
  have d2 : ∀ o, (w.alloc o).cell? ⟨g, qs.length * 3 + 2, none⟩ = some (.slice a2 len2 c2) := fun o => by rw [World.cell?_alloc_lt _ _ _ (by exact hglt)]; exact c2'
  cases llit with
  | some bs =>
    simp only [Option.isNone_some] at ha2
    have HJ : Hid (joinP (qs ++ [⟨loff, ln, .slice a2 len2 c2, some bs⟩]) ⟨off, pn, .slice a len c, lit⟩ = qs ++ [⟨loff, ln, .slice a2 len2 c2, some bs⟩, ⟨off, pn, .slice a len c, lit⟩]) := (joinP_snoc _ _ _ HJ0.out (fun h => by cases h.1)).trans (by simp)
    rw [HJ.out]
    go_enter Try.func31, Try.ntmps31
    go_wp2_with fail
    go_quiet (fail)
    have HO2 := (HO.out.alloc (Obj.cells #[.int .i64 off, .int .i64 pn, .slice a len c] 35)).drewN nq
    clear d0 d1 d2 c0 c1 c2' hfr hnil
    go_wp2_with (at_builtin; refine wpList_appPB _ rfl _ _ 31 rfl Try.underlying31 info35 rfl rfl HO2 ⟨off, pn, .slice a len c, lit⟩ 35 rfl (by simp) hone (by omega) (by decide) (by simp; omega) ?_)
    intro g1 cp w1 hown1 hb1 _
    have HO3 : Hid (OwnP 35 w1 base (.slice (some ⟨g1, 0, none⟩) (qs.length + 1 + 1) cp) (qs.length + 1 + 1) (qs ++ [⟨loff, ln, .slice a2 len2 c2, some bs⟩, ⟨off, pn, .slice a len c, lit⟩])) := hown1
    have HB : Hid (Below base w w1) := (below_drewN' ((Below.refl base w).alloc hbase _) nq).trans hb1
    clear hown1 hb1 HO2
    go_wp2_with fail
    go_ret
    exact JoinPost.mk HO3.out HB.out
  | none =>
    simp only [Option.isNone_none] at ha2
    have hb1' := hbd.1 rfl
    simp only at hb1'
    cases lit with
    | some bs =>
      simp only [Option.isNone_some] at ha
      have HJ : Hid (joinP (qs ++ [⟨loff, ln, .slice a2 len2 c2, none⟩]) ⟨off, pn, .slice a len c, some bs⟩ = qs ++ [⟨loff, ln, .slice a2 len2 c2, none⟩, ⟨off, pn, .slice a len c, some bs⟩]) := (joinP_snoc _ _ _ HJ0.out (fun h => by cases h.2.1)).trans (by simp)
      rw [HJ.out]
      go_enter Try.func31, Try.ntmps31
      go_wp2_with fail
      go_quiet (fail)
      have HO2 := (HO.out.alloc (Obj.cells #[.int .i64 off, .int .i64 pn, .slice a len c] 35)).drewN nq
      clear d0 d1 d2 c0 c1 c2' hfr hnil
      go_wp2_with (at_builtin; refine wpList_appPB _ rfl _ _ 31 rfl Try.underlying31 info35 rfl rfl HO2 ⟨off, pn, .slice a len c, some bs⟩ 35 rfl (by simp) hone (by omega) (by decide) (by simp; omega) ?_)
      intro g1 cp w1 hown1 hb1 _
      have HO3 : Hid (OwnP 35 w1 base (.slice (some ⟨g1, 0, none⟩) (qs.length + 1 + 1) cp) (qs.length + 1 + 1) (qs ++ [⟨loff, ln, .slice a2 len2 c2, none⟩, ⟨off, pn, .slice a len c, some bs⟩])) := hown1
      have HB : Hid (Below base w w1) := (below_drewN' ((Below.refl base w).alloc hbase _) nq).trans hb1
      clear hown1 hb1 HO2
      go_wp2_with fail
      go_ret
      exact JoinPost.mk HO3.out HB.out
    | none =>
      simp only [Option.isNone_none] at ha
      by_cases heq : loff + ln = off
      · have HJ : Hid (joinP (qs ++ [⟨loff, ln, .slice a2 len2 c2, none⟩]) ⟨off, pn, .slice a len c, none⟩ = qs ++ [⟨loff, ln + pn, .slice a2 len2 c2, none⟩]) := joinP_merge _ _ _ HJ0.out ⟨rfl, rfl, heq⟩
        rw [HJ.out]
        have heq' : (loff + ln == off) = true := by simpa using heq
        have hbp1 := hbp.1 rfl
        simp only at hbp1
        have hsum : ln + pn ≤ 4611686018427387904 := by omega
        clear heq hbp1
        go_enter Try.func31, Try.ntmps31
        go_wp2_with fail
        go_quiet (fail)
        go_wp2_with fail
        have hfa : ∀ o x, (w.alloc o).frozen? ⟨g, x, none⟩ = false := fun o x => by rw [World.frozen?_alloc_old _ _ _ (by simp; omega)]; exact hfr x
        go_region
        have HO2 := ((HO.out.alloc (Obj.cells #[.int .i64 off, .int .i64 pn, .slice a len c] 35)).drewN (nq + 1)).setLast (ln + pn)
        go_wp2_with fail
        go_ret
        refine JoinPost.mk (n' := qs.length + 1) HO2 ?_
        exact Below.setCell (p := ⟨g, qs.length * 3 + 1, none⟩) (below_drewN' ((Below.refl base w).alloc hbase _) (nq + 1)) hbg _
      · have HJ : Hid (joinP (qs ++ [⟨loff, ln, .slice a2 len2 c2, none⟩]) ⟨off, pn, .slice a len c, none⟩ = qs ++ [⟨loff, ln, .slice a2 len2 c2, none⟩, ⟨off, pn, .slice a len c, none⟩]) := (joinP_snoc _ _ _ HJ0.out (fun h => heq h.2.2)).trans (by simp)
        rw [HJ.out]
        have heq' : (loff + ln == off) = false := by simpa using heq
        clear heq
        go_enter Try.func31, Try.ntmps31
        go_wp2_with fail
        go_quiet (fail)
        have HO2 := (HO.out.alloc (Obj.cells #[.int .i64 off, .int .i64 pn, .slice a len c] 35)).drewN nq
        clear d0 d1 d2 c0 c1 c2' hfr hnil
        go_wp2_with (at_builtin; refine wpList_appPB _ rfl _ _ 31 rfl Try.underlying31 info35 rfl rfl HO2 ⟨off, pn, .slice a len c, none⟩ 35 rfl (by simp) hone (by omega) (by decide) (by simp; omega) ?_)
        intro g1 cp w1 hown1 hb1 _
        have HO3 : Hid (OwnP 35 w1 base (.slice (some ⟨g1, 0, none⟩) (qs.length + 1 + 1) cp) (qs.length + 1 + 1) (qs ++ [⟨loff, ln, .slice a2 len2 c2, none⟩, ⟨off, pn, .slice a len c, none⟩])) := hown1
        have HB : Hid (Below base w w1) := (below_drewN' ((Below.refl base w).alloc hbase _) nq).trans hb1
        clear hown1 hb1 HO2
        go_wp2_with fail
        go_ret
        exact JoinPost.mk HO3.out HB.out

/-- The contract of join. -/
theorem join_anyB (ps : List Pc) (v : Value) (n : Nat) (p : Pc) (w w0 : World) (base : Nat) (hp0 : IsLit w0 p.lv p.lit) (hl0 : Lits w0 ps) (hbd : ∀ q ∈ ps, Bd2 q) (hbp : Bd2 p) (hown : OwnP 35 w base v n ps) (hn : n < 1073741824) (hbase : base ≤ w.heap.size) :
    Calls Try.prog 31 #[v, p.val] w (JoinPost w base (joinP ps p)) := by
  by_cases h0 : p.n = 0
  · rw [joinP_zero ps p h0]
    exact join_zero ps v n p w w0 base hp0 hown hbase h0
  · by_cases hps : ps = []
    · subst hps
      rw [joinP_nil p h0]
      exact join_first v n p w w0 base hp0 hown hbase h0
    · obtain ⟨qs, l, rfl⟩ : ∃ qs l, ps = qs ++ [l] := ⟨ps.dropLast, ps.getLast hps, (List.dropLast_concat_getLast hps).symm⟩
      exact join_lastB qs l v n p w w0 base hp0 (hl0 l (by simp)) (hbd l (by simp)) hbp hown hn hbase h0

end Go.Proofs.Qxb6617398a
