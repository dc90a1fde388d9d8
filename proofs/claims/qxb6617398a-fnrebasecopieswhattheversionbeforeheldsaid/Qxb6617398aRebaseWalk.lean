/-
  The walk of FnRebaseCopiesWhatTheVersionBeforeHeld.
-/
import Derived.Test.Qxb6617398aWithin
import Derived.Test.Qxb6617398aToPieces
import Derived.Test.Qxb6617398aReb33
import Derived.Test.Qxb6617398aModel
namespace Go.Proofs.Qxb6617398a
open Go.RowKit

theorem RebPost.mk {w w' : World} {R : List Dt} {v' : Value} {n' : Nat} {out : List Pc} (h1 : OwnP 35 w' w.heap.size v' n' out) (h2 : out.map Pc.dat = R) (h3 : Lits w out) (h4 : Below w.heap.size w w') : RebPost w R (.returned v') w' := ⟨_, _, _, rfl, h1, h2, h3, h4⟩

set_option maxRecDepth 100000 in
set_option maxHeartbeats 1000000 in
theorem zzRebase_any (ps fs : List Pc) (vp vf : Value) (w : World) (hvp : IsPcs w vp ps) (hlp : Lits w ps) (hvf : IsPcs w vf fs) (hlf : Lits w fs) (hps : ∀ p ∈ ps, WFr false p)
    (hin : ∀ p ∈ ps, p.lit = none → 0 < p.n → 0 ≤ p.off ∧ p.off + p.n ≤ tot fs) (hrg : ∀ p ∈ ps, -9223372036854775808 ≤ p.off ∧ p.off ≤ 9223372036854775807) (hfs : ∀ q ∈ fs, WFr true q) (htot : tot fs ≤ 65536) (hl1 : ps.length ≤ 4096) (hl2 : fs.length ≤ 4096) :
    Calls Try.prog 28 #[vp, vf] w (RebPost w (rebD (ps.map Pc.dat) (fs.map Pc.dat))) := by
  have HC : Hid (Calls Try.prog 33 #[vp, vf] w (RebPost w (rebD (ps.map Pc.dat) (fs.map Pc.dat)))) := rebase_any ps fs vp vf w hvp hlp hvf hlf hps hin hrg hfs htot hl1 hl2
  generalize rebD (ps.map Pc.dat) (fs.map Pc.dat) = R at *
  obtain ⟨a, cap, rfl, -⟩ := hvp
  obtain ⟨a2, cap2, rfl, -⟩ := hvf
  clear hlp hlf hps hin hrg hfs htot hl1 hl2
  go_enter Try.func28, Try.ntmps28
  go_wp2_with fail
  refine HC.out.mono ?_
  rintro e w2 ⟨v2, n2, out, rfl, ho, hm, hl, hb⟩
  have HO : Hid (OwnP 35 w2 w.heap.size v2 n2 out) := ho
  have HM : Hid (out.map Pc.dat = R) := hm
  have HL : Hid (Lits w out) := hl
  clear ho hm hl
  go_wp2_with fail
  go_ret
  exact RebPost.mk HO.out HM.out HL.out hb

theorem dat_getD {xs ys : List Pc} (h : xs.map Pc.dat = ys.map Pc.dat) (i : Nat) : (ys.getD i Pc.nil).off = (xs.getD i Pc.nil).off ∧ (ys.getD i Pc.nil).n = (xs.getD i Pc.nil).n ∧ (ys.getD i Pc.nil).lit = (xs.getD i Pc.nil).lit := by
  have e : ∀ zs : List Pc, (zs.getD i Pc.nil).dat = (zs.map Pc.dat).getD i Pc.nil.dat := fun zs => by
    simp only [List.getD, List.getElem?_map]
    cases zs[i]? <;> rfl
  have h2 : (ys.getD i Pc.nil).dat = (xs.getD i Pc.nil).dat := by rw [e, e, h]
  simp only [Pc.dat, Prod.mk.injEq] at h2
  exact h2

set_option maxRecDepth 100000 in
set_option maxHeartbeats 4000000 in
theorem rebase_walk (ps fs : List Pc) (v1 v2 : Value) (w : World) (hv1 : IsPcs w v1 ps) (hl1 : Lits w ps) (hv2 : IsPcs w v2 fs) (hl2 : Lits w fs) (hrg : ∀ p ∈ ps, -9223372036854775808 ≤ p.off ∧ p.off ≤ 9223372036854775807) :
    Calls Try.prog 6 #[v1, v2] w (Ok w) := by
  have HV1 : Hid (IsPcs w v1 ps) := hv1
  have HL1 : Hid (Lits w ps) := hl1
  have HV2 : Hid (IsPcs w v2 fs) := hv2
  have HL2 : Hid (Lits w fs) := hl2
  have HRG : Hid (∀ p ∈ ps, -9223372036854775808 ≤ p.off ∧ p.off ≤ 9223372036854775807) := hrg
  obtain ⟨a, cap, rfl, h1, h2, -⟩ := hv1
  obtain ⟨a2, cap2, rfl, h3, h4, -⟩ := hv2
  unfold maxLen at h2 h4
  clear hl1 hl2 hrg
  go_enter Try.func6, Try.ntmps6
  go_wp2_with fail
  refine (bytes26_any ps fs _ _ _ HV1.out HL1.out HV2.out HL2.out).mono ?_
  rintro e w' ⟨r, rfl, rfl⟩
  cases r
  · go_wp2_with fail
    go_ret
    exact ⟨rfl, Below.refl _ _⟩
  by_cases hlen : ps.length ≤ 4096 ∧ fs.length ≤ 4096
  · obtain ⟨hlen1, hlen2⟩ := hlen
    go_wp2_with fail
    refine (wellFormed_any fs _ true _ HV2.out HL2.out).mono ?_
    rintro e w ⟨t, ok, rfl, rfl, hok⟩
    cases ok
    · go_wp2_with fail
      go_ret
      exact ⟨rfl, Below.refl _ _⟩
    obtain ⟨hwf, ht, htot⟩ := hok rfl
    have HF : Hid (∀ q ∈ fs, WFr true q) := hwf
    have HT : Hid (t = tot fs) := ht
    have HTT : Hid (tot fs ≤ 65536) := htot
    have ht0 : 0 ≤ t := by rw [ht]; exact tot_nonneg fs (fun q hq => (hwf q hq).1)
    have ht1 : t ≤ 65536 := by omega
    clear hwf hok ht htot
    go_wp2_with fail
    refine (wellFormed_any ps _ false _ HV1.out HL1.out).mono ?_
    rintro e w ⟨t2, ok, rfl, rfl, hok⟩
    cases ok
    · go_wp2_with fail
      go_ret
      exact ⟨rfl, Below.refl _ _⟩
    have HP : Hid (∀ p ∈ ps, WFr false p) := (hok rfl).1
    clear hok
    go_wp2_with fail
    refine (within_any ps _ t _ HV1.out HL1.out HP.out ht0 ht1).mono ?_
    rintro e w1 ⟨r, rfl, hb1, hr⟩
    cases r
    · go_wp2_with fail
      go_ret
      exact ⟨rfl, hb1⟩
    have HI : Hid (∀ p ∈ ps, p.lit = none → 0 < p.n → 0 ≤ p.off ∧ p.off + p.n ≤ tot fs) := by
      have h9 := hr rfl
      rw [HT.out] at h9
      exact h9
    have HB1 : Hid (Below w.heap.size w w1) := hb1
    clear hr hb1
    go_wp2_with fail
    refine (toPieces_any ps _ w1 (HV1.out.below HB1.out) (HL1.out.below HB1.out) hlen1).mono ?_
    rintro e w2 ⟨u1, m1, rfl, ho1, hb2⟩
    have HO1 : Hid (IsPcs w2 u1 ps) := ho1.pcs
    have HB2 : Hid (Below w.heap.size w w2) := HB1.out.trans (hb2.mono HB1.out.size)
    clear ho1 hb2
    go_wp2_with fail
    refine (toPieces_any fs _ w2 (HV2.out.below HB2.out) (HL2.out.below HB2.out) hlen2).mono ?_
    rintro e w3 ⟨u2, m2, rfl, ho2, hb3⟩
    have HO2 : Hid (IsPcs w3 u2 fs) := ho2.pcs
    have HO13 : Hid (IsPcs w3 u1 ps) := HO1.out.below hb3
    have HB3 : Hid (Below w.heap.size w w3) := HB2.out.trans (hb3.mono HB2.out.size)
    clear ho2 hb3 HO1
    go_wp2_with fail
    refine (zzRebase_any ps fs u1 u2 w3 HO13.out (HL1.out.below HB3.out) HO2.out (HL2.out.below HB3.out) HP.out HI.out HRG.out HF.out HTT.out hlen1 hlen2).mono ?_
    rintro e w4 ⟨vg, ng, got, rfl, hog, hmg, hlg, hb4⟩
    have HG4 : Hid (IsPcs w4 vg got) := hog.pcs
    have HLG4 : Hid (Lits w4 got) := hlg.below hb4
    have HB4 : Hid (Below w.heap.size w w4) := HB3.out.trans (hb4.mono HB3.out.size)
    have HMG : Hid (got.map Pc.dat = rebD (ps.map Pc.dat) (fs.map Pc.dat)) := hmg
    clear hog hmg hlg hb4 HO13 HO2
    have HMC : Hid (Calls Try.prog 29 #[.slice a ps.length cap, .slice a2 fs.length cap2, .int .i64 t] w4 (ModelPost w4 (rebD (ps.map Pc.dat) (fs.map Pc.dat)))) := by
      have h9 := model_any ps fs _ _ w4 (HV1.out.below HB4.out) (HL1.out.below HB4.out) (HV2.out.below HB4.out) (HL2.out.below HB4.out) HP.out HI.out HF.out HTT.out hlen1 hlen2
      rw [← HT.out] at h9
      exact h9
    go_wp2_with fail
    refine HMC.out.mono ?_
    rintro e w5 ⟨vw, nw, want, rfl, how, hmw, hlw, hb5⟩
    have HG : Hid (IsPcs w5 vg got) := HG4.out.below hb5
    have HLG : Hid (Lits w5 got) := HLG4.out.below hb5
    have HW : Hid (IsPcs w5 vw want) := how.pcs
    have HLW : Hid (Lits w5 want) := hlw
    have HB : Hid (Below w.heap.size w w5) := HB4.out.trans (hb5.mono HB4.out.size)
    have HMM : Hid (got.map Pc.dat = want.map Pc.dat) := by rw [HMG.out]; exact hmw.symm
    have hlw2 : want.length = got.length := by
      have h9 := congrArg List.length HMM.out
      simpa using h9.symm
    clear how hmw hlw hb5 HMC HG4 HLG4 HMG HB4 HB3 HB2 HB1
    obtain ⟨ga, gcap, hvg, g1, g2, -⟩ := HG.out
    obtain ⟨wa, wcap, hvw, g3, g4, -⟩ := HW.out
    rw [hlw2] at hvw g3
    unfold maxLen at g2 g4
    subst hvg hvw
    have HLN : Hid (want.length = got.length) := hlw2
    clear hlw2
    go_wp2_with fail
    go_loopw [11] (fun iv wr => ∃ i : Nat, i ≤ got.length ∧ iv = .int .i64 i ∧ Below w5.heap.size w5 wr) (fun iv _ => got.length - (intOf iv).toNat)
    case atStart => exact ⟨0, Nat.zero_le _, rfl, Below.refl _ _⟩
    case round =>
      obtain ⟨i, hi, rfl, hbel⟩ := hrel
      by_cases hlt : i < got.length
      · obtain ⟨b, o1, rfl, hc0, hc1, hc2⟩ := HG.out.cell (j := i) hlt
        obtain ⟨b2, o2, rfl, hd0, hd1, hd2⟩ := HW.out.cell (j := i) (by rw [HLN.out]; exact hlt)
        have hblt : b < w5.heap.size := World.block_lt_of_cell? _ _ hc0
        have hblt2 : b2 < w5.heap.size := World.block_lt_of_cell? _ _ hd0
        have hlp := HLG.out _ (getD_memP got i hlt)
        have hlq := HLW.out _ (getD_memP want i (by rw [HLN.out]; exact hlt))
        obtain ⟨z1, z2, z3⟩ := dat_getD HMM.out i
        rw [z1] at hd0
        rw [z2] at hd1
        rw [z3] at hlq
        clear z1 z2 z3
        obtain ⟨pa, pc, hlv, -⟩ := IsLit.shape hlp
        obtain ⟨qa, qc, hlv2, -⟩ := IsLit.shape hlq
        have HLp : Hid (IsLit w5 (.slice pa ((got.getD i Pc.nil).lit.getD []).length pc) (got.getD i Pc.nil).lit) := by rw [hlv] at hlp; exact hlp
        have HLq : Hid (IsLit w5 (.slice qa ((got.getD i Pc.nil).lit.getD []).length qc) (got.getD i Pc.nil).lit) := by rw [hlv2] at hlq; exact hlq
        rw [hlv] at hc2
        rw [hlv2] at hd2
        have e0 : wr.cell? ⟨b, o1 + i * 3, none⟩ = some (.int .i64 (got.getD i Pc.nil).off) := by rw [hbel.cell (p := ⟨b, _, none⟩) hblt]; exact hc0
        have e1 : wr.cell? ⟨b, o1 + i * 3 + 1, none⟩ = some (.int .i64 (got.getD i Pc.nil).n) := by rw [hbel.cell (p := ⟨b, _, none⟩) hblt]; exact hc1
        have e2 : wr.cell? ⟨b, o1 + i * 3 + 2, none⟩ = some (.slice pa ((got.getD i Pc.nil).lit.getD []).length pc) := by rw [hbel.cell (p := ⟨b, _, none⟩) hblt]; exact hc2
        have d0 : wr.cell? ⟨b2, o2 + i * 3, none⟩ = some (.int .i64 (got.getD i Pc.nil).off) := by rw [hbel.cell (p := ⟨b2, _, none⟩) hblt2]; exact hd0
        have d1 : wr.cell? ⟨b2, o2 + i * 3 + 1, none⟩ = some (.int .i64 (got.getD i Pc.nil).n) := by rw [hbel.cell (p := ⟨b2, _, none⟩) hblt2]; exact hd1
        have d2 : wr.cell? ⟨b2, o2 + i * 3 + 2, none⟩ = some (.slice qa ((got.getD i Pc.nil).lit.getD []).length qc) := by rw [hbel.cell (p := ⟨b2, _, none⟩) hblt2]; exact hd2
        clear hc0 hc1 hc2 hd0 hd1 hd2 hlv hlv2 hlp hlq
        generalize ((got.getD i Pc.nil).lit.getD []).length = len at *
        generalize (got.getD i Pc.nil).off = poff at *
        generalize (got.getD i Pc.nil).n = pn at *
        generalize (got.getD i Pc.nil).lit = plit at *
        have f0 := fun x : Later wr => x.cell d0
        have f1 := fun x : Later wr => x.cell d1
        have f2 := fun x : Later wr => x.cell d2
        have k0 := fun x : Later wr => x.cell e0
        have k1 := fun x : Later wr => x.cell e1
        have k2 := fun x : Later wr => x.cell e2
        have hne := Later.inh wr
        go_wp2_with fail
        refine wp_region_later (by kernel_rfl) (by kernel_rfl) ?_
        repeat (go_big_quiet_step ((first | (go_at_call 16; rename_i y; exact Later.calls (pieceIs_any _ _ _ _ plit _ (HLp.out.below (hbel.trans (y.below.mono hbel.size))) (HLq.out.below (hbel.trans (y.below.mono hbel.size))))))))
        refine wpQuiet_nil ?_
        rintro _ ⟨x, rfl⟩
        go_wp2_with fail
        go_roundw
        case rel => exact ⟨i + 1, hlt, by go_num, hbel.trans (x.below.mono hbel.size)⟩
        case measure => simp [intOf]; omega
      · go_wp2_with fail
        go_ret
        exact ⟨rfl, HB.out.trans (hbel.mono HB.out.size)⟩
  · go_wp2_with fail
    all_goals (go_ret; exact ⟨rfl, Below.refl _ _⟩)
end Go.Proofs.Qxb6617398a
