/-
  The walk of FnJoinOfARunCutAnywhere.
-/
import Derived.Test.Qxb6617398aToPieces
import Derived.Test.Qxb6617398aFoldPlain
namespace Go.Proofs.Qxb6617398a
open Go.RowKit

/-- A run of the base as a piece. -/
def runP (off n : Int) : Pc := ⟨off, n, .slice none 0 0, none⟩

theorem join_cut (ps : List Pc) (off n1 n2 : Int) (h1 : 0 ≤ n1) (h2 : 0 ≤ n2) : joinP (joinP ps (runP off n1)) (runP (off + n1) n2) = joinP ps (runP off (n1 + n2)) := by
  by_cases e1 : n1 = 0
  · subst e1
    rw [joinP_zero ps (runP off 0) rfl]
    simp
  by_cases e2 : n2 = 0
  · subst e2
    rw [joinP_zero _ (runP (off + n1) 0) rfl]
    simp
  have e3 : ¬ n1 + n2 = 0 := by omega
  rcases joinP_cases ps (runP off n1) with ⟨h0, _⟩ | ⟨_, qs, l, rfl, hl, _, hs, h⟩ | ⟨_, h, hn⟩
  · exact absurd h0 e1
  · have hs' : l.off + l.n = off := hs
    have h' : joinP (qs ++ [l]) (runP off n1) = qs ++ [⟨l.off, l.n + n1, l.lv, l.lit⟩] := h
    rw [h', joinP_merge qs ⟨l.off, l.n + n1, l.lv, l.lit⟩ (runP (off + n1) n2) e2 ⟨hl, rfl, by show l.off + (l.n + n1) = off + n1; omega⟩, joinP_merge qs l (runP off (n1 + n2)) e3 ⟨hl, rfl, hs⟩]
    simp only [runP, Int.add_assoc]
  · rw [h, joinP_merge ps (runP off n1) (runP (off + n1) n2) e2 ⟨rfl, rfl, rfl⟩]
    by_cases hps : ps = []
    · subst hps
      rw [joinP_nil _ e3]
      rfl
    · obtain ⟨qs, l, rfl⟩ : ∃ qs l, ps = qs ++ [l] := ⟨ps.dropLast, ps.getLast hps, (List.dropLast_concat_getLast hps).symm⟩
      rw [joinP_snoc qs l (runP off (n1 + n2)) e3 (hn qs l rfl)]
      rfl

theorem join_len (ps : List Pc) (p : Pc) : ps.length ≤ (joinP ps p).length ∧ (joinP ps p).length ≤ ps.length + 1 := by
  rcases joinP_cases ps p with ⟨_, h⟩ | ⟨_, qs, l, rfl, _, _, _, h⟩ | ⟨_, h, _⟩ <;> rw [h] <;> simp

theorem join_prefix (ps : List Pc) (p : Pc) (i : Nat) (hi : i + 1 < ps.length) : (joinP ps p).getD i Pc.nil = ps.getD i Pc.nil := by
  rcases joinP_cases ps p with ⟨_, h⟩ | ⟨_, qs, l, rfl, _, _, _, h⟩ | ⟨_, h, _⟩
  · rw [h]
  · have hq : i < qs.length := by simp at hi; omega
    rw [h, getD_left _ _ _ hq, getD_left _ _ _ hq]
  · rw [h, getD_left _ _ _ (by omega)]

/-- What holds of well-formed pieces, and stays under joining. -/
def Fine (w : World) (p : Pc) : Prop := 0 ≤ p.n ∧ (p.lit = none → 0 ≤ p.off ∧ p.off ≤ 2305843009213693951 + 65536) ∧ (∀ bs, p.lit = some bs → (bs.length : Int) = p.n) ∧ IsLit w p.lv p.lit

theorem fine_of_wf {w : World} {ps : List Pc} (hl : Lits w ps) (h : ∀ p ∈ ps, WFr true p) : ∀ p ∈ ps, Fine w p := fun p hp => by
  obtain ⟨h1, h2, h3, h4⟩ := h p hp
  exact ⟨h1, fun hn => by have := h4 rfl hn; omega, h3, hl p hp⟩

theorem fine_join {w : World} {ps : List Pc} {p : Pc} (h : ∀ q ∈ ps, Fine w q) (hp : Fine w p) : ∀ q ∈ joinP ps p, Fine w q := by
  refine join_all ps p h (fun _ => hp) ?_
  intro l hl1 h1 h2 h3 h0 _
  obtain ⟨f1, f2, f3, f4⟩ := hl1
  have := hp.1
  refine ⟨by simp only; omega, f2, fun bs hbs => ?_, f4⟩
  simp only at hbs
  rw [h1] at hbs; cases hbs

theorem fine_wf {w : World} {ps : List Pc} (h : ∀ q ∈ ps, Fine w q) (ht : tot ps ≤ 65536) : (∀ q ∈ ps, WF q) ∧ (∀ q ∈ ps, Bd q) ∧ Lits w ps ∧ ∀ q ∈ ps, 0 ≤ q.n := by
  have hnn : ∀ q ∈ ps, 0 ≤ q.n := fun q hq => (h q hq).1
  refine ⟨fun q hq => ?_, fun q hq => ?_, fun q hq => (h q hq).2.2.2, hnn⟩
  · obtain ⟨h1, h2, h3, _⟩ := h q hq
    have := n_le_tot ps hnn q hq
    exact ⟨by omega, by omega, fun hn => by have := h2 hn; omega, h3⟩
  · obtain ⟨h1, h2, h3, _⟩ := h q hq
    have := n_le_tot ps hnn q hq
    exact ⟨fun hn => by have := h2 hn; omega, by omega, by omega⟩

set_option maxRecDepth 100000 in
set_option maxHeartbeats 4000000 in
theorem cut_walk (ps : List Pc) (v : Value) (off n1 n2 : Int) (w : World) (hv : IsPcs w v ps) (hl : Lits w ps) : Calls Try.prog 4 #[v, .int .i64 off, .int .i64 n1, .int .i64 n2] w (Ok w) := by
  have HV : Hid (IsPcs w v ps) := hv
  have HL : Hid (Lits w ps) := hl
  obtain ⟨a, cap, rfl, h1, h2, -⟩ := hv
  unfold maxLen at h2
  clear hl
  go_enter Try.func4, Try.ntmps4
  go_wp2_with fail
  refine (bytes10_any ps _ _ _ _ _ HV.out HL.out).mono ?_
  rintro e w' ⟨r, rfl, rfl⟩
  cases r
  · go_wp2_with fail
    go_ret
    exact ⟨rfl, Below.refl _ _⟩
  by_cases hlen : ps.length ≤ 4096
  · go_wp2_with fail
    refine (wellFormed_any ps _ true _ HV.out HL.out).mono ?_
    rintro e w ⟨t, ok, rfl, rfl, hok⟩
    cases ok
    · go_wp2_with fail
      go_ret
      exact ⟨rfl, Below.refl _ _⟩
    obtain ⟨hwf, ht, htot⟩ := hok rfl
    have HF : Hid (∀ p ∈ ps, Fine w p) := fine_of_wf HL.out hwf
    have HT : Hid (t = tot ps) := ht
    have ht0 : 0 ≤ t := by rw [ht]; exact tot_nonneg ps (fun q hq => (hwf q hq).1)
    have ht1 : t ≤ 65536 := by omega
    clear hwf hok ht htot
    by_cases hin : 0 ≤ off ∧ off ≤ 2305843009213693951 ∧ 0 ≤ n1 ∧ n1 ≤ 65536 ∧ 0 ≤ n2 ∧ n2 ≤ 65536
    · obtain ⟨i1, i2, i3, i4, i5, i6⟩ := hin
      have x1 : decide (off < 0) = false := by simp; omega
      have x2 : decide (2305843009213693951 < off) = false := by simp; omega
      have x3 : decide (n1 < 0) = false := by simp; omega
      have x4 : decide (65536 < n1) = false := by simp; omega
      have x5 : decide (n2 < 0) = false := by simp; omega
      have x6 : decide (65536 < n2) = false := by simp; omega
      by_cases hsum : t + n1 + n2 ≤ 65536
      · have HJ : Hid (∀ (qs : List Pc) (v : Value) (n : Nat) (o m : Int) (w2 : World) (base : Nat), (∀ q ∈ qs, Fine w q) → tot qs ≤ 65536 → n < 1048576 → 0 ≤ o → o ≤ 2305843009213693951 + 65536 → 0 ≤ m → m ≤ 131072 → OwnP 35 w2 base v n qs → base ≤ w2.heap.size →
            Calls Try.prog 12 #[v, .agg #[.int .i64 o, .int .i64 m, .slice none 0 0]] w2 (JoinPost w2 base (joinP qs (runP o m)))) := by
          intro qs v n o m w2 base hq ht2 hn ho1 ho2 hm1 hm2 how hb
          obtain ⟨q1, q2, q3, q4⟩ := fine_wf hq ht2
          exact zzJoin_any qs v n (runP o m) w2 w base rfl q3 q2 ⟨fun _ => ⟨ho1, by show o ≤ _; omega⟩, hm1, by show m ≤ _; omega⟩ how hn hb
        have HTP : Hid (∀ w2, Below w.heap.size w w2 → Calls Try.prog 13 #[.slice a ps.length cap] w2 (JoinPost w2 w2.heap.size ps)) := fun w2 h => toPieces_any ps _ w2 (HV.out.below h) (HL.out.below h) hlen
        have hfr : ∀ o m : Int, 0 ≤ o → o ≤ 2305843009213693951 + 65536 → 0 ≤ m → Fine w (runP o m) := fun o m g1 g2 g3 => ⟨g3, fun _ => ⟨g1, g2⟩, fun bs hbs => by simp [runP] at hbs, rfl⟩
        have HFR : Hid (∀ o m : Int, 0 ≤ o → o ≤ 2305843009213693951 + 65536 → 0 ≤ m → Fine w (runP o m)) := hfr
        have HTt : Hid (tot ps ≤ 65536) := by have h9 := HT.out; show _ ≤ _; omega
        clear hfr
        go_wp2_with fail
        refine (HTP.out _ (Below.refl _ _)).mono ?_
        rintro e w1 ⟨v1, m1, rfl, ho1, hb1⟩
        have hm1 : m1 < 1048576 := by rw [← ho1.1]; omega
        have HO1 : Hid (OwnP 35 w1 w.heap.size v1 m1 ps) := ho1
        clear ho1
        go_wp2_with fail
        refine (makePiece_any _ _ _ _ _ _).mono ?_
        rintro e w2 ⟨rfl, hb2⟩
        go_wp2_with fail
        refine (HJ.out ps v1 m1 off (n1 + n2) w2 w.heap.size HF.out HTt.out hm1 i1 (by omega) (by omega) (by omega) (HO1.out.below hb2) (Nat.le_trans hb1.size hb2.size)).mono ?_
        rintro e w3 ⟨vw, mw, rfl, ho3, hb3⟩
        have hB3 : Below w.heap.size w w3 := (hb1.trans (hb2.mono hb1.size)).trans hb3
        have HB3 : Hid (Below w.heap.size w w3) := hB3
        have HW3 : Hid (IsPcs w3 vw (joinP ps (runP off (n1 + n2)))) := ho3.pcs
        clear ho3 hb1 hb2 hb3 HO1 hB3 hm1
        go_wp2_with fail
        refine (HTP.out _ HB3.out).mono ?_
        rintro e w4 ⟨v4, m4, rfl, ho4, hb4⟩
        have hm4 : m4 < 1048576 := by rw [← ho4.1]; omega
        have HO4 : Hid (OwnP 35 w4 w3.heap.size v4 m4 ps) := ho4
        clear ho4
        go_wp2_with fail
        refine (makePiece_any _ _ _ _ _ _).mono ?_
        rintro e w5 ⟨rfl, hb5⟩
        go_wp2_with fail
        refine (HJ.out ps v4 m4 off n1 w5 w3.heap.size HF.out HTt.out hm4 i1 (by omega) (by omega) (by omega) (HO4.out.below hb5) (Nat.le_trans hb4.size hb5.size)).mono ?_
        rintro e w6 ⟨v6, m6, rfl, ho6, hb6⟩
        have hm6 : m6 < 1048576 := by rw [← ho6.1]; have h9 := join_length ps (runP off n1); omega
        have hB6 : Below w3.heap.size w3 w6 := (hb4.trans (hb5.mono hb4.size)).trans hb6
        have HB6 : Hid (Below w3.heap.size w3 w6) := hB6
        have HO6 : Hid (OwnP 35 w6 w3.heap.size v6 m6 (joinP ps (runP off n1))) := ho6
        have HF6 : Hid (∀ q ∈ joinP ps (runP off n1), Fine w q) := fine_join HF.out (HFR.out off n1 i1 (by omega) i3)
        have HT6 : Hid (tot (joinP ps (runP off n1)) ≤ 65536) := by
          have h9 := HT.out
          rw [tot_join, ← h9]
          show t + n1 ≤ 65536
          omega
        clear ho6 hb4 hb5 hb6 HO4 hB6 hm4
        go_wp2_with fail
        refine (makePiece_any _ _ _ _ _ _).mono ?_
        rintro e w7 ⟨rfl, hb7⟩
        go_wp2_with fail
        refine (HJ.out _ v6 m6 (off + n1) n2 w7 w3.heap.size HF6.out HT6.out hm6 (by omega) (by omega) (by omega) (by omega) (HO6.out.below hb7) (Nat.le_trans HB6.out.size hb7.size)).mono ?_
        rintro e w8 ⟨v8, m8, rfl, ho8, hb8⟩
        rw [join_cut ps off n1 n2 i3 i5] at ho8
        have HC8 : Hid (IsPcs w8 v8 (joinP ps (runP off (n1 + n2)))) := ho8.pcs
        have hB8 : Below w3.heap.size w3 w8 := (HB6.out.trans (hb7.mono HB6.out.size)).trans hb8
        have HB8 : Hid (Below w3.heap.size w3 w8) := hB8
        have HFw : Hid (∀ q ∈ joinP ps (runP off (n1 + n2)), Fine w q) := fine_join HF.out (HFR.out off (n1 + n2) i1 (by omega) (by omega))
        have HTw : Hid (tot (joinP ps (runP off (n1 + n2))) ≤ 65536) := by
          have h9 := HT.out
          rw [tot_join, ← h9]
          show t + (n1 + n2) ≤ 65536
          omega
        obtain ⟨hlw1, hlw2⟩ := join_len ps (runP off (n1 + n2))
        have HPX : Hid (∀ i, i + 1 < ps.length → (joinP ps (runP off (n1 + n2))).getD i Pc.nil = ps.getD i Pc.nil) := fun i hi => join_prefix ps _ i hi
        have HBY : Hid (bytesOf (joinP ps (runP off (n1 + n2))) = bytesOf ps ++ cellsAt off none (n1 + n2).toNat) := bytesOf_join ps _ (fun q hq => (HF.out q hq).1) (by show 0 ≤ n1 + n2; omega)
        clear ho8 hb7 hb8 HO6 HF6 HT6 hB8 hm6 HB6
        generalize joinP ps (runP off (n1 + n2)) = wh at *
        have HW8 : Hid (IsPcs w8 vw wh) := HW3.out.below HB8.out
        obtain ⟨wa, wcap, hvw, hw1, hw2, -⟩ := HW8.out
        subst hvw
        unfold maxLen at hw2
        have HB : Hid (Below w.heap.size w w8) := HB3.out.trans (HB8.out.mono HB3.out.size)
        clear HW3 HB8 HB3 HJ HTP
        go_wp2_with fail
        refine (samePieces_any wh _ _ _ HW8.out HC8.out ((fine_wf HFw.out HTw.out).2.2.1.below HB.out)).mono ?_
        rintro e w9 ⟨rfl, hb9⟩
        have y1 : decide ((wh.length : Int) < (ps.length : Int)) = false := by simp; omega
        have y2 : decide ((ps.length : Int) + 1 < (wh.length : Int)) = false := by simp; omega
        have HB9 : Hid (Below w8.heap.size w8 w9) := hb9
        clear hb9
        go_wp2_with fail
        go_loopw [13] (fun iv wr => ∃ i : Nat, (i : Int) ≤ ps.length ∧ iv = .int .i64 i ∧ Below w8.heap.size w8 wr) (fun iv _ => ps.length - (intOf iv).toNat)
        case atStart => exact ⟨0, by omega, rfl, HB9.out⟩
        case round =>
          obtain ⟨i, hi, rfl, hbel⟩ := hrel
          have hbw : Below w.heap.size w wr := HB.out.trans (hbel.mono HB.out.size)
          by_cases hlt : i + 1 < ps.length
          · obtain ⟨b, o1, rfl, hc0, hc1, hc2⟩ := HW8.out.cell (j := i) (by omega)
            obtain ⟨b2, o2, rfl, hd0, hd1, hd2⟩ := HV.out.cell (j := i) (by omega)
            have hblt : b < w8.heap.size := World.block_lt_of_cell? _ _ hc0
            have hblt2 : b2 < w.heap.size := World.block_lt_of_cell? _ _ hd0
            rw [HPX.out i hlt] at hc0 hc1 hc2
            have hlp := HL.out _ (getD_memP ps i (by omega))
            obtain ⟨pa, pc, hlv, -⟩ := IsLit.shape hlp
            have HLp : Hid (IsLit w (.slice pa ((ps.getD i Pc.nil).lit.getD []).length pc) (ps.getD i Pc.nil).lit) := by rw [hlv] at hlp; exact hlp
            rw [hlv] at hc2 hd2
            have e0 : wr.cell? ⟨b, o1 + i * 3, none⟩ = some (.int .i64 (ps.getD i Pc.nil).off) := by rw [hbel.cell (p := ⟨b, _, none⟩) hblt]; exact hc0
            have e1 : wr.cell? ⟨b, o1 + i * 3 + 1, none⟩ = some (.int .i64 (ps.getD i Pc.nil).n) := by rw [hbel.cell (p := ⟨b, _, none⟩) hblt]; exact hc1
            have e2 : wr.cell? ⟨b, o1 + i * 3 + 2, none⟩ = some (.slice pa ((ps.getD i Pc.nil).lit.getD []).length pc) := by rw [hbel.cell (p := ⟨b, _, none⟩) hblt]; exact hc2
            have d0 : wr.cell? ⟨b2, o2 + i * 3, none⟩ = some (.int .i64 (ps.getD i Pc.nil).off) := by rw [hbw.cell (p := ⟨b2, _, none⟩) hblt2]; exact hd0
            have d1 : wr.cell? ⟨b2, o2 + i * 3 + 1, none⟩ = some (.int .i64 (ps.getD i Pc.nil).n) := by rw [hbw.cell (p := ⟨b2, _, none⟩) hblt2]; exact hd1
            have d2 : wr.cell? ⟨b2, o2 + i * 3 + 2, none⟩ = some (.slice pa ((ps.getD i Pc.nil).lit.getD []).length pc) := by rw [hbw.cell (p := ⟨b2, _, none⟩) hblt2]; exact hd2
            clear hc0 hc1 hc2 hd0 hd1 hd2 hlv hlp
            generalize ((ps.getD i Pc.nil).lit.getD []).length = len at *
            generalize (ps.getD i Pc.nil).off = poff at *
            generalize (ps.getD i Pc.nil).n = pn at *
            generalize (ps.getD i Pc.nil).lit = plit at *
            have f0 := fun x : Later wr => x.cell d0
            have f1 := fun x : Later wr => x.cell d1
            have f2 := fun x : Later wr => x.cell d2
            have k0 := fun x : Later wr => x.cell e0
            have k1 := fun x : Later wr => x.cell e1
            have k2 := fun x : Later wr => x.cell e2
            have hne := Later.inh wr
            go_wp2_with fail
            refine wp_region_later (by kernel_rfl) (by kernel_rfl) ?_
            repeat (go_big_quiet_step ((first | (go_at_call 16; rename_i y; exact Later.calls (pieceIs_any _ _ _ _ plit _ (HLp.out.below (hbw.trans (y.below.mono hbw.size))) (HLp.out.below (hbw.trans (y.below.mono hbw.size))))))))
            refine wpQuiet_nil ?_
            rintro _ ⟨x, rfl⟩
            go_wp2_with fail
            go_roundw
            case rel => exact ⟨i + 1, by omega, by go_num, hbel.trans (x.below.mono hbel.size)⟩
            case measure => simp [intOf]; omega
          · obtain ⟨q1, q2, q3, q4⟩ := fine_wf HFw.out HTw.out
            have hbl : ((bytesOf wh).length : Int) ≤ 65536 := by rw [bytesOf_length wh q4]; exact HTw.out
            have hbl2 : (bytesOf ps).length + (n1 + n2).toNat ≤ 65536 := by have h9 := HBY.out; rw [h9, List.length_append] at hbl; simp [cellsAt] at hbl; omega
            have HQ1 : Hid (∀ q ∈ wh, WF q) := q1
            have HQ3 : Hid (Lits w wh) := q3
            have HQp : Hid (∀ q ∈ ps, WF q) := (fine_wf HF.out (by have h9 := HT.out; omega)).1
            have HBw : Hid (Below w.heap.size w wr) := hbw
            clear q1 q2 q3 q4 hbw
            go_wp2_with fail
            refine (cellsOfPieces_any wh _ _ (HW8.out.below hbel) (HQ3.out.below HBw.out) HQ1.out (by omega)).mono ?_
            rintro e w10 ⟨vg, ng, rfl, hog, hb10⟩
            have HCG : Hid (IsCls w10 vg (bytesOf wh)) := hog.cls
            have hb11 : Below w.heap.size w w10 := HBw.out.trans (hb10.mono HBw.out.size)
            have HB10 : Hid (Below w.heap.size w w10) := hb11
            clear hog hb10 hb11 hbl
            go_wp2_with fail
            refine (cellsOfRuns_any ps _ _ (HV.out.below HB10.out) (HL.out.below HB10.out) HQp.out (by omega)).mono ?_
            rintro e w11 ⟨vr, nr, rfl, hor, hb11⟩
            have hnr : nr = (bytesOf ps).length := hor.1.symm
            have HOR : Hid (OwnC w11 w10.heap.size vr nr (bytesOf ps)) := hor
            have hb11' : w10.heap.size ≤ w11.heap.size := hb11.size
            have HB11 : Hid (Below w10.heap.size w10 w11) := hb11
            have HNR : Hid (nr = (bytesOf ps).length) := hnr
            obtain ⟨m, hm⟩ := Int.eq_ofNat_of_zero_le (a := n1 + n2) (by omega)
            have HM : Hid (n1 + n2 = (m : Int)) := hm
            have HA : Hid (Calls Try.prog 18 #[vr, .int .i64 off, .int .i64 (n1 + n2), .slice none 0 0] w11 (CellsPost w11 w10.heap.size (bytesOf ps ++ cellsAt off none (n1 + n2).toNat))) := by
              rw [HM.out, Int.toNat_natCast]
              rw [HM.out, Int.toNat_natCast] at hbl2
              exact appendCells_run _ vr nr off m w11 _ HOR.out hb11' i1 (by omega) (by rw [HNR.out]; omega)
            clear hor hb11 hnr hm
            go_wp2_with fail
            refine HA.out.mono ?_
            rintro e w12 ⟨va, na, rfl, hoa, hb12⟩
            have HCA : Hid (IsCls w12 va (bytesOf wh)) := by rw [HBY.out]; exact hoa.cls
            have HB12 : Hid (Below w10.heap.size w10 w12) := HB11.out.trans hb12
            clear hoa hb12
            go_wp2_with fail
            refine (sameCells_any _ _ _ _ (HCG.out.below HB12.out) HCA.out).mono ?_
            rintro e w13 ⟨rfl, hb13⟩
            go_wp2_with fail
            go_ret
            have hz := HB10.out.trans (HB12.out.mono HB10.out.size)
            exact ⟨rfl, hz.trans (hb13.mono hz.size)⟩
      · go_wp2_with fail
        go_ret
        exact ⟨rfl, Below.refl _ _⟩
    · go_wp2_with fail
      all_goals (go_ret; exact ⟨rfl, Below.refl _ _⟩)
  · go_wp2_with fail
    go_ret
    exact ⟨rfl, Below.refl _ _⟩
end Go.Proofs.Qxb6617398a
