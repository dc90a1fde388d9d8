/-
  The walk of FnJoinFoldIsTheNormalForm.
-/
import Derived.Test.Qxb6617398aFoldPlain
namespace Go.Proofs.Qxb6617398a
open Go.RowKit

/-- What the fold's pieces give to the contracts. -/
theorem good_wf {w : World} {ps : List Pc} (h : ∀ q ∈ ps, Good w q) (ht : tot ps ≤ 65536) : (∀ q ∈ ps, WF q) ∧ (∀ q ∈ ps, Bd q) ∧ Lits w ps := by
  have hnn : ∀ q ∈ ps, 0 ≤ q.n := fun q hq => by have := (h q hq).1; omega
  refine ⟨fun q hq => ?_, fun q hq => ?_, fun q hq => (h q hq).2.2.2⟩
  · obtain ⟨h1, h2, h3, _⟩ := h q hq
    have := n_le_tot ps hnn q hq
    exact ⟨by omega, by omega, fun hn => by have := h2 hn; omega, h3⟩
  · obtain ⟨h1, h2, h3, _⟩ := h q hq
    have := n_le_tot ps hnn q hq
    exact ⟨fun hn => by have := h2 hn; omega, by omega, by omega⟩

set_option maxRecDepth 100000 in
set_option maxHeartbeats 2000000 in
theorem fold_walk (qs : List Pc) (v : Value) (w : World) (hv : IsPcs w v qs) (hl : Lits w qs) : Calls Try.prog 5 #[v] w (Ok w) := by
  have HV : Hid (IsPcs w v qs) := hv
  have HL : Hid (Lits w qs) := hl
  obtain ⟨a, cap, rfl, h1, h2, -⟩ := hv
  unfold maxLen at h2
  clear hl
  go_enter Try.func5, Try.ntmps5
  go_wp2_with fail
  refine (bytes21_any qs _ _ HV.out HL.out).mono ?_
  rintro e w' ⟨r, rfl, rfl⟩
  cases r
  · go_wp2_with fail
    go_ret
    exact ⟨rfl, Below.refl _ _⟩
  by_cases hlen : qs.length ≤ 4096
  · go_wp2_with fail
    refine (wellFormed_any qs _ true _ HV.out HL.out).mono ?_
    rintro e w ⟨t, ok, rfl, rfl, hok⟩
    cases ok
    · go_wp2_with fail
      go_ret
      exact ⟨rfl, Below.refl _ _⟩
    obtain ⟨hwf, -, htot⟩ := hok rfl
    have HWF : Hid (∀ p ∈ qs, WFr true p) := hwf
    have hnn : ∀ p ∈ qs, 0 ≤ p.n := fun p hp => (hwf p hp).1
    have HNN : Hid (∀ p ∈ qs, 0 ≤ p.n) := hnn
    clear hwf hnn hok
    go_wp2_with fail
    go_loopw [5, 6] (fun v i wr => ∃ k n : Nat, k ≤ qs.length ∧ i = .int .i64 k ∧ OwnP 35 wr w.heap.size v n (foldJ (qs.take k)) ∧ Below w.heap.size w wr) (fun _ i _ => qs.length - (intOf i).toNat)
    case atStart => exact ⟨0, 0, Nat.zero_le _, rfl, OwnP.nil _ _ _, Below.refl _ _⟩
    case round =>
      obtain ⟨k, n, hk, rfl, ho, hbel⟩ := hrel
      have HO : Hid (OwnP 35 wr w.heap.size u5 n (foldJ (qs.take k))) := ho
      have HG : Hid (∀ q ∈ foldJ (qs.take k), Good w q) := fold_good w qs HL.out HWF.out k hk
      have HT : Hid (tot (foldJ (qs.take k)) ≤ 65536) := by
        have h3 := fold_tot qs k hk
        have h4 := tot_take_le qs HNN.out k
        show _ ≤ _
        omega
      by_cases hlt : k < qs.length
      · obtain ⟨b, off, rfl, hc0, hc1, hc2⟩ := HV.out.cell hlt
        have hblt : b < w.heap.size := World.block_lt_of_cell? _ _ hc0
        have hmem := getD_memP qs k hlt
        have hnk : n < 1048576 := by have h5 := fold_length qs k hk; rw [ho.1] at h5; omega
        obtain ⟨pa, pc, hlv, -⟩ := IsLit.shape (HL.out _ hmem)
        have HJ : Hid (∀ w2, OwnP 35 w2 w.heap.size u5 n (foldJ (qs.take k)) → Below w.heap.size w w2 → Calls Try.prog 12 #[u5, (qs.getD k Pc.nil).val] w2 (JoinPost w2 w.heap.size (foldJ (qs.take (k + 1))))) := by
          intro w2 h3 h4
          rw [take_snocP qs k hlt, foldJ_snoc]
          obtain ⟨q1, q2, q3⟩ := good_wf HG.out HT.out
          obtain ⟨f1, f2, f3, f4⟩ := HWF.out _ hmem
          exact zzJoin_any _ u5 n _ w2 w _ (HL.out _ hmem) q3 q2 ⟨fun h => by have := f4 rfl h; omega, f1, by omega⟩ h3 hnk h4.size
        have g0 : ∀ w2, Below w.heap.size w w2 → w2.cell? ⟨b, off + k * 3, none⟩ = some (.int .i64 (qs.getD k Pc.nil).off) := fun w2 h => by rw [h.cell (p := ⟨b, _, none⟩) hblt]; exact hc0
        have g1 : ∀ w2, Below w.heap.size w w2 → w2.cell? ⟨b, off + k * 3 + 1, none⟩ = some (.int .i64 (qs.getD k Pc.nil).n) := fun w2 h => by rw [h.cell (p := ⟨b, _, none⟩) hblt]; exact hc1
        have g2 : ∀ w2, Below w.heap.size w w2 → w2.cell? ⟨b, off + k * 3 + 2, none⟩ = some (qs.getD k Pc.nil).lv := fun w2 h => by rw [h.cell (p := ⟨b, _, none⟩) hblt]; exact hc2
        unfold Pc.val at HJ
        rw [hlv] at g2 HJ
        generalize ((qs.getD k Pc.nil).lit.getD []).length = len at *
        generalize (qs.getD k Pc.nil).off = poff at *
        generalize (qs.getD k Pc.nil).n = pn at *
        have HC : Hid (∀ w2, Below w.heap.size w w2 → (w2.cell? ⟨b, off + k * 3, none⟩ = some (.int .i64 poff) ∧ w2.cell? ⟨b, off + k * 3 + 1, none⟩ = some (.int .i64 pn) ∧ w2.cell? ⟨b, off + k * 3 + 2, none⟩ = some (.slice pa len pc))) := fun w2 h => ⟨g0 _ h, g1 _ h, g2 _ h⟩
        obtain ⟨s0, s1, s2⟩ := HC.out _ hbel
        generalize hfj : foldJ (qs.take (k + 1)) = fj at *
        have HFJ : Hid (foldJ (qs.take (k + 1)) = fj) := hfj
        clear hfj
        clear ho hc0 hc1 hc2 g0 g1 g2 hlv hmem HG HT
        go_wp2_with fail
        go_region_held3 (fun w' => w'.cell? ⟨b, off + k * 3, none⟩ = some (.int .i64 poff) ∧ w'.cell? ⟨b, off + k * 3 + 1, none⟩ = some (.int .i64 pn) ∧ w'.cell? ⟨b, off + k * 3 + 2, none⟩ = some (.slice pa len pc))
          (first | exact HC.out _ hbz3 | exact HC.out _ hbz2 | exact HC.out _ hbel | exact HC.out _ hbel.drew)
          (first
            | (go_at_call 14; refine (makePiece_any _ _ _ _ _ _).mono ?_; rintro e w2 ⟨rfl, hb2⟩; have hbz2 : Below w.heap.size w w2 := hbel.drew.trans (hb2.mono hbel.size))
            | (go_at_call 12; refine (HJ.out w2 (OwnP.below (w := wr.drew) HO.out hb2) hbz2).mono ?_; rintro e w3 ⟨v3, n3, rfl, ho3, hb3⟩; have hbz3 : Below w.heap.size w w3 := hbz2.trans hb3))
        have HO3 : Hid (OwnP 35 w3 w.heap.size v3 n3 fj) := ho3
        clear ho3 hb2 hb3
        go_wp2_with fail
        go_roundw
        case rel => exact ⟨k + 1, n3, hlt, by go_num, by rw [HFJ.out]; exact HO3.out, hbz3⟩
        case measure => simp [intOf]; omega
      · have hkeq : k = qs.length := by omega
        subst hkeq
        rw [List.take_of_length_le (Nat.le_refl _)] at HO HG HT
        have HNF : Hid (NF (foldJ qs)) := by have h7 := NF_fold qs qs.length (Nat.le_refl _); rwa [List.take_of_length_le (Nat.le_refl _)] at h7
        have HLF : Hid ((foldJ qs).filter isLit = qs.filter keeps) := by have h7 := lits_fold qs qs.length (Nat.le_refl _); rwa [List.take_of_length_le (Nat.le_refl _)] at h7
        have HBY : Hid (bytesOf (foldJ qs) = bytesOf qs) := by have h7 := (fold_bytes qs HNN.out qs.length (Nat.le_refl _)).1; rwa [List.take_of_length_le (Nat.le_refl _)] at h7
        have hbl : (bytesOf qs).length ≤ 65536 := by have h7 := bytesOf_length qs HNN.out; omega
        have HGW : Hid ((∀ q ∈ foldJ qs, WF q) ∧ (∀ q ∈ foldJ qs, Bd q) ∧ Lits w (foldJ qs)) := good_wf HG.out HT.out
        generalize foldJ qs = out at *
        have HTO : Hid (tot out ≤ 65536) := HT.out
        clear ho HT hlt hk
        have HP : Hid (IsPcs wr u5 out) := HO.out.pcs
        obtain ⟨oa, ocap, hu5, ho1, ho2, -⟩ := HO.out.pcs
        subst hu5
        unfold maxLen at ho2
        clear HO
        have HBW : Hid (Below w.heap.size w wr) := hbel
        obtain ⟨wo, hwo⟩ : ∃ wo, wo = wr := ⟨_, rfl⟩
        subst hwo
        go_wp2_with fail
        refine (cellsOfPieces_any out _ _ HP.out (HGW.out.2.2.below (by exact hbel)) HGW.out.1 (by rw [HBY.out]; exact hbl)).mono ?_
        rintro e w2 ⟨vg, ng, rfl, hog, hb2⟩
        have HCG : Hid (IsCls w2 vg (bytesOf out)) := hog.cls
        have hbw2 : Below w.heap.size w w2 := hbel.trans (hb2.mono hbel.size)
        clear hog
        go_wp2_with fail
        refine (cellsOfRuns_any qs _ _ (HV.out.below hbw2) (HL.out.below hbw2) (fun p hp => by obtain ⟨f1, f2, f3, f4⟩ := HWF.out p hp; exact ⟨f1, f2, fun h => by have := f4 rfl h; omega, f3⟩) (by omega)).mono ?_
        rintro e w3 ⟨vc, nc, rfl, hoc, hb3⟩
        have HCR : Hid (IsCls w3 vc (bytesOf out)) := by rw [HBY.out]; exact hoc.cls
        clear hoc
        go_wp2_with fail
        refine (sameCells_any _ _ _ _ (HCG.out.below hb3) HCR.out).mono ?_
        rintro e w4 ⟨rfl, hb4⟩
        have hbo4 : Below wo.heap.size wo w4 := hb2.trans ((hb3.trans (hb4.mono hb3.size)).mono hb2.size)
        have HBO : Hid (Below wo.heap.size wo w4) := hbo4
        clear hb2 hb3 hb4 hbw2 hbo4 hbel HCG HCR hbl
        go_wp2_with fail
        go_loopw [9, 10] (fun kv iv wr => ∃ k i : Nat, k ≤ qs.length ∧ i ≤ out.length ∧ kv = .int .i64 k ∧ iv = .int .i64 i ∧ (out.drop i).filter isLit = (qs.drop k).filter keeps ∧ Below wo.heap.size wo wr) (fun _ iv _ => out.length - (intOf iv).toNat)
        case atStart => exact ⟨0, 0, Nat.zero_le _, Nat.zero_le _, rfl, rfl, HLF.out, HBO.out⟩
        case round =>
          obtain ⟨k, i, hk, hi, rfl, rfl, hfl, hbel⟩ := hrel
          have HFL : Hid ((out.drop i).filter isLit = (qs.drop k).filter keeps) := hfl
          have hnil := fun (w : World) a n c => Lib.run_eql_slice_nil (P := Try.prog) w 22 5 a n c 0 0 Try.underlying22
          clear hfl
          have HBW2 : Hid (Below w.heap.size w wr) := HBW.out.trans (hbel.mono HBW.out.size)
          by_cases hlt : i < out.length
          · obtain ⟨b, off, rfl, hc0, hc1, hc2⟩ := HP.out.cell hlt
            have hblt : b < wo.heap.size := World.block_lt_of_cell? _ _ hc0
            have hmem := getD_memP out i hlt
            have hgood := HG.out _ hmem
            obtain ⟨pa, pc, hlv, hpn, -⟩ := IsLit.shape hgood.2.2.2
            have HC : Hid (∀ w2, Below wo.heap.size wo w2 → (w2.cell? ⟨b, off + i * 3, none⟩ = some (.int .i64 (out.getD i Pc.nil).off) ∧ w2.cell? ⟨b, off + i * 3 + 1, none⟩ = some (.int .i64 (out.getD i Pc.nil).n) ∧ w2.cell? ⟨b, off + i * 3 + 2, none⟩ = some (.slice pa ((out.getD i Pc.nil).lit.getD []).length pc))) := by
              rw [hlv] at hc2
              exact fun w2 h => ⟨by rw [h.cell (p := ⟨b, _, none⟩) hblt]; exact hc0, by rw [h.cell (p := ⟨b, _, none⟩) hblt]; exact hc1, by rw [h.cell (p := ⟨b, _, none⟩) hblt]; exact hc2⟩
            have HGp : Hid (Good w (out.getD i Pc.nil)) := hgood
            have hpos := hgood.1
            have hlvp : Hid ((out.getD i Pc.nil).lv = .slice pa ((out.getD i Pc.nil).lit.getD []).length pc) := hlv
            obtain ⟨s0, s1, s2⟩ := HC.out _ hbel
            cases hil : isLit (out.getD i Pc.nil) with
            | true =>
              have HLR : Hid ((out.drop i).filter isLit = out.getD i Pc.nil :: (out.drop (i + 1)).filter isLit) := filter_lit_drop out i hlt hil
              have HNX : Hid (nextLit qs k < qs.length ∧ qs.getD (nextLit qs k) Pc.nil = out.getD i Pc.nil ∧ (qs.drop (nextLit qs k + 1)).filter keeps = (out.drop (i + 1)).filter isLit) := nextLit_cons qs k _ _ (by rw [← HFL.out]; exact HLR.out)
              have hisn : (out.getD i Pc.nil).lit.isNone = false := by simpa [isLit] using hil
              rw [hisn] at hpn
              clear hil hisn hgood hmem hc0 hc1 hc2 hlv
              obtain ⟨j, hj⟩ : ∃ j, nextLit qs k = j := ⟨_, rfl⟩
              have HJ : Hid (nextLit qs k = j) := hj
              rw [hj] at HNX
              clear hj
              obtain ⟨hjl, hqe, hrest⟩ := HNX.out
              have HQE : Hid (qs.getD j Pc.nil = out.getD i Pc.nil) := hqe
              have HRS : Hid ((qs.drop (j + 1)).filter keeps = (out.drop (i + 1)).filter isLit) := hrest
              obtain ⟨b2, off2, rfl, hd0, hd1, hd2⟩ := HV.out.cell hjl
              have hblt2 : b2 < w.heap.size := World.block_lt_of_cell? _ _ hd0
              obtain ⟨qa, qc, hlv', hqn, -⟩ := IsLit.shape (HL.out _ (getD_memP qs j hjl))
              rw [hlv'] at hd2
              rw [HQE.out] at hd0 hd1 hd2 hqn hlv'
              have HLq : Hid (IsLit w (.slice qa ((out.getD i Pc.nil).lit.getD []).length qc) (out.getD i Pc.nil).lit) := by have h9 := HL.out _ (getD_memP qs j hjl); rw [HQE.out, hlv'] at h9; exact h9
              have HLp : Hid (IsLit w (.slice pa ((out.getD i Pc.nil).lit.getD []).length pc) (out.getD i Pc.nil).lit) := by have h9 := HGp.out.2.2.2; rw [hlvp.out] at h9; exact h9
              have HD : Hid (∀ w2, Below w.heap.size w w2 → (w2.cell? ⟨b2, off2 + j * 3, none⟩ = some (.int .i64 (out.getD i Pc.nil).off) ∧ w2.cell? ⟨b2, off2 + j * 3 + 1, none⟩ = some (.int .i64 (out.getD i Pc.nil).n) ∧ w2.cell? ⟨b2, off2 + j * 3 + 2, none⟩ = some (.slice qa ((out.getD i Pc.nil).lit.getD []).length qc))) :=
                fun w2 h => ⟨by rw [h.cell (p := ⟨b2, _, none⟩) hblt2]; exact hd0, by rw [h.cell (p := ⟨b2, _, none⟩) hblt2]; exact hd1, by rw [h.cell (p := ⟨b2, _, none⟩) hblt2]; exact hd2⟩
              clear hqe hrest hd0 hd1 hd2 hlv' hqn HNX
              generalize ((out.getD i Pc.nil).lit.getD []).length = len at *
              generalize (out.getD i Pc.nil).off = poff at *
              generalize (out.getD i Pc.nil).n = pn at *
              generalize (out.getD i Pc.nil).lit = plit at *
              have hle : decide (pn ≤ 0) = false := by simp; omega
              go_wp2_with fail
              refine (pieceN_any _ _ _ _ _ _).mono ?_
              rintro e w5 ⟨rfl, hb5⟩
              have hbz5 : Below wo.heap.size wo w5 := hbel.trans (hb5.mono hbel.size)
              obtain ⟨t0, t1, t2⟩ := HC.out _ hbz5
              clear s0 s1 s2
              go_wp2_with fail
              refine (pieceLit_any _ _ _ _ _ _).mono ?_
              rintro e w6 ⟨rfl, hb6⟩
              have hbz6 : Below wo.heap.size wo w6 := hbz5.trans (hb6.mono hbz5.size)
              have hbq6 : Below w.heap.size w w6 := HBW.out.trans (hbz6.mono HBW.out.size)
              clear t0 t1 t2
              go_wp2_with fail
              refine (nextLit_any qs _ k _ (HV.out.below hbq6) (HL.out.below hbq6) hk).mono ?_
              rintro e w7 ⟨rfl, hb7⟩
              rw [HJ.out]
              have hbz7 : Below wo.heap.size wo w7 := hbz6.trans (hb7.mono hbz6.size)
              have hbq7 : Below w.heap.size w w7 := HBW.out.trans (hbz7.mono HBW.out.size)
              obtain ⟨e0, e1, e2⟩ := HC.out _ hbz7
              obtain ⟨d0, d1, d2⟩ := HD.out _ hbq7
              have f0 := fun x : Later w7 => x.cell d0
              have f1 := fun x : Later w7 => x.cell d1
              have f2 := fun x : Later w7 => x.cell d2
              have k0 := fun x : Later w7 => x.cell e0
              have k1 := fun x : Later w7 => x.cell e1
              have k2 := fun x : Later w7 => x.cell e2
              have hne := Later.inh w7
              have hjq : ((j : Int) == (qs.length : Int)) = false := by simp; omega
              go_wp2_with fail
              refine wp_region_later (by kernel_rfl) (by kernel_rfl) ?_
              repeat (go_big_quiet_step ((first | (go_at_call 16; rename_i y; exact Later.calls (pieceIs_any _ _ _ _ plit _ (HLp.out.below (hbq7.trans (y.below.mono hbq7.size))) (HLq.out.below (hbq7.trans (y.below.mono hbq7.size))))))))
              refine wpQuiet_nil ?_
              rintro _ ⟨x, rfl⟩
              go_wp2_with fail
              go_roundw
              case rel => exact ⟨j + 1, i + 1, hjl, hlt, by go_num, by go_num, HRS.out.symm, hbz7.trans (x.below.mono hbz7.size)⟩
              case measure => simp [intOf]; omega
            | false =>
              have HRR : Hid ((out.drop i).filter isLit = (out.drop (i + 1)).filter isLit) := filter_run_drop out i hlt hil
              have hisn : (out.getD i Pc.nil).lit.isNone = true := by simpa [isLit] using hil
              rw [hisn] at hpn
              have hlitn : (out.getD i Pc.nil).lit = none := by simpa using hisn
              have hob := hgood.2.1 hlitn
              have HNFi : Hid (∀ i', i = i' + 1 → (out.getD i' Pc.nil).lit = none → ¬ (out.getD i' Pc.nil).off + (out.getD i' Pc.nil).n = (out.getD i Pc.nil).off) := by
                intro i' hii h9
                subst hii
                exact HNF.out i' hlt h9 hlitn
              clear hil hisn hgood hmem hc0 hc1 hc2 hlv hlitn
              generalize ((out.getD i Pc.nil).lit.getD []).length = len at *
              generalize (out.getD i Pc.nil).off = poff at *
              generalize (out.getD i Pc.nil).n = pn at *
              have hle : decide (pn ≤ 0) = false := by simp; omega
              go_wp2_with fail
              refine (pieceN_any _ _ _ _ _ _).mono ?_
              rintro e w5 ⟨rfl, hb5⟩
              have hbz5 : Below wo.heap.size wo w5 := hbel.trans (hb5.mono hbel.size)
              obtain ⟨t0, t1, t2⟩ := HC.out _ hbz5
              clear s0 s1 s2
              go_wp2_with fail
              refine (pieceLit_any _ _ _ _ _ _).mono ?_
              rintro e w6 ⟨rfl, hb6⟩
              have hbz6 : Below wo.heap.size wo w6 := hbz5.trans (hb6.mono hbz5.size)
              clear t0 t1 t2
              cases i with
              | zero =>
                go_wp2_with fail
                have hne := Later.inh w6
                refine wp_region_later (by kernel_rfl) (by kernel_rfl) ?_
                repeat (go_big_quiet_step (fail))
                refine wpQuiet_nil ?_
                rintro _ ⟨x, rfl⟩
                go_wp2_with fail
                go_roundw
                case rel => exact ⟨k, 0 + 1, hk, hlt, rfl, by go_num, by rw [← HFL.out]; exact HRR.out.symm, hbz6.trans (x.below.mono hbz6.size)⟩
                case measure => simp [intOf]; omega
              | succ i' =>
                obtain ⟨b', off', hbb, hd0, hd1, hd2⟩ := HP.out.cell (j := i') (by omega)
                simp only [Option.some.injEq, Addr.mk.injEq, and_true] at hbb
                obtain ⟨rfl, rfl⟩ := hbb
                have hgood' := HG.out _ (getD_memP out i' (by omega))
                obtain ⟨qa, qc, hlv', hqn, -⟩ := IsLit.shape hgood'.2.2.2
                rw [hlv'] at hd2
                have hNF' := HNFi.out i' rfl
                have hob' := hgood'.2.1
                have hpos' := hgood'.1
                have hle' := n_le_tot out (fun q hq => by have := (HG.out q hq).1; omega) _ (getD_memP out i' (by omega))
                have htot' := HTO.out
                obtain ⟨e0, e1, e2⟩ := HC.out _ hbz6
                have d0 : w6.cell? ⟨b, off + i' * 3, none⟩ = some (.int .i64 (out.getD i' Pc.nil).off) := by rw [hbz6.cell (p := ⟨b, _, none⟩) hblt]; exact hd0
                have d1 : w6.cell? ⟨b, off + i' * 3 + 1, none⟩ = some (.int .i64 (out.getD i' Pc.nil).n) := by rw [hbz6.cell (p := ⟨b, _, none⟩) hblt]; exact hd1
                have d2 : w6.cell? ⟨b, off + i' * 3 + 2, none⟩ = some (.slice qa ((out.getD i' Pc.nil).lit.getD []).length qc) := by rw [hbz6.cell (p := ⟨b, _, none⟩) hblt]; exact hd2
                cases hq : (out.getD i' Pc.nil).lit with
                | some bs =>
                  rw [hq] at hqn
                  simp only [Option.isNone_some] at hqn
                  clear hNF' hob' hd0 hd1 hd2 hlv' hgood' hq
                  generalize ((out.getD i' Pc.nil).lit.getD []).length = len' at *
                  generalize (out.getD i' Pc.nil).off = poff' at *
                  generalize (out.getD i' Pc.nil).n = pn' at *
                  have f0 := fun x : Later w6 => x.cell d0
                  have f1 := fun x : Later w6 => x.cell d1
                  have f2 := fun x : Later w6 => x.cell d2
                  have hne := Later.inh w6
                  go_wp2_with fail
                  refine wp_region_later (by kernel_rfl) (by kernel_rfl) ?_
                  repeat (go_big_quiet_step ((first | (go_at_call 23; exact Later.calls (pieceLit_any _ _ _ _ _ _)))))
                  refine wpQuiet_nil ?_
                  rintro _ ⟨x, rfl⟩
                  go_wp2_with fail
                  go_roundw
                  case rel => exact ⟨k, i' + 1 + 1, hk, hlt, rfl, by go_num, by rw [← HFL.out]; exact HRR.out.symm, hbz6.trans (x.below.mono hbz6.size)⟩
                  case measure => simp [intOf]; omega
                | none =>
                  rw [hq] at hqn
                  simp only [Option.isNone_none] at hqn
                  have hob2 := hob' hq
                  have hNF2 := hNF' hq
                  clear hNF' hob' hd0 hd1 hd2 hlv' hgood' hq
                  generalize ((out.getD i' Pc.nil).lit.getD []).length = len' at *
                  generalize (out.getD i' Pc.nil).off = poff' at *
                  generalize (out.getD i' Pc.nil).n = pn' at *
                  have hsum : (poff' + pn' == poff) = false := by simpa using hNF2
                  clear hNF2
                  have f0 := fun x : Later w6 => x.cell d0
                  have f1 := fun x : Later w6 => x.cell d1
                  have f2 := fun x : Later w6 => x.cell d2
                  have k0 := fun x : Later w6 => x.cell e0
                  have k1 := fun x : Later w6 => x.cell e1
                  have k2 := fun x : Later w6 => x.cell e2
                  have hne := Later.inh w6
                  go_wp2_with fail
                  refine wp_region_later (by kernel_rfl) (by kernel_rfl) ?_
                  repeat (go_big_quiet_step ((first | (go_at_call 23; exact Later.calls (pieceLit_any _ _ _ _ _ _)) | (go_at_call 24; exact Later.calls (pieceOff_any _ _ _ _ _ _)) | (go_at_call 22; exact Later.calls (pieceN_any _ _ _ _ _ _)))))
                  refine wpQuiet_nil ?_
                  rintro _ ⟨x, rfl⟩
                  go_wp2_with fail
                  go_roundw
                  case rel => exact ⟨k, i' + 1 + 1, hk, hlt, rfl, by go_num, by rw [← HFL.out]; exact HRR.out.symm, hbz6.trans (x.below.mono hbz6.size)⟩
                  case measure => simp [intOf]; omega
          · have HE : Hid (nextLit qs k = qs.length) := by
              have h8 := HFL.out
              rw [List.drop_of_length_le (by omega)] at h8
              exact nextLit_nil qs k hk h8.symm
            go_wp2_with fail
            refine (nextLit_any qs _ k _ (HV.out.below HBW2.out) (HL.out.below HBW2.out) hk).mono ?_
            rintro e w5 ⟨rfl, hb5⟩
            rw [HE.out]
            go_wp2_with fail
            go_ret
            exact ⟨by simp, HBW2.out.trans (hb5.mono HBW2.out.size)⟩
  · go_wp2_with fail
    go_ret
    exact ⟨rfl, Below.refl _ _⟩
end Go.Proofs.Qxb6617398a
