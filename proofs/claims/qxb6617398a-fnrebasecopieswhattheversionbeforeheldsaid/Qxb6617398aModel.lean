/-
  The walk of rebaseModel.
-/
import Derived.Test.Qxb6617398aModelLits
import Derived.Test.Qxb6617398aByteRegion
namespace Go.Proofs.Qxb6617398a
open Go.RowKit

def ModelPost (w : World) (R : List Dt) (e : Ending) (w' : World) : Prop :=
  ∃ v' n' out, e = .returned v' ∧ OwnP 40 w' w.heap.size v' n' out ∧ out.map Pc.dat = R ∧ Lits w' out ∧ Below w.heap.size w w'

set_option maxRecDepth 100000 in
set_option maxHeartbeats 40000000 in
theorem model_any (ps fs : List Pc) (vp vf : Value) (w : World) (hvp : IsPcs w vp ps) (hlp : Lits w ps) (hvf : IsPcs w vf fs) (hlf : Lits w fs) (hps : ∀ p ∈ ps, WFr false p)
    (hin : ∀ p ∈ ps, p.lit = none → 0 < p.n → 0 ≤ p.off ∧ p.off + p.n ≤ tot fs) (hfs : ∀ q ∈ fs, WFr true q) (htot : tot fs ≤ 65536) (hl1 : ps.length ≤ 4096) (hl2 : fs.length ≤ 4096) :
    Calls Try.prog 29 #[vp, vf, .int .i64 (tot fs)] w (ModelPost w (rebD (ps.map Pc.dat) (fs.map Pc.dat))) := by
  have HVP : Hid (IsPcs w vp ps) := hvp
  have HLP : Hid (Lits w ps) := hlp
  have HVF : Hid (IsPcs w vf fs) := hvf
  have HLF : Hid (Lits w fs) := hlf
  have HPS : Hid (∀ p ∈ ps, WFr false p) := hps
  have HIN : Hid (∀ p ∈ ps, p.lit = none → 0 < p.n → 0 ≤ p.off ∧ p.off + p.n ≤ tot fs) := hin
  have HFS : Hid (∀ q ∈ fs, WFr true q) := hfs
  have HNN : Hid (∀ q ∈ fs, 0 ≤ q.n) := fun q hq => (hfs q hq).1
  have HTD : Hid ((totD (fs.map Pc.dat) : Int) = tot fs) := by
    have h9 := totD_start fs HNN.out fs.length (Nat.le_refl _)
    rw [startP_end, List.take_of_length_le (by simp)] at h9
    exact h9
  have hT1 : totD (fs.map Pc.dat) ≤ 65536 := by have h9 := HTD.out; omega
  obtain ⟨a, cap, rfl, c1, c2, -⟩ := hvp
  obtain ⟨a2, cap2, rfl, c3, c4, -⟩ := hvf
  unfold maxLen at c2 c4
  clear hlp hlf hps hin hfs htot
  rw [← HTD.out]
  generalize hTN : totD (fs.map Pc.dat) = TN at *
  have HTN : Hid (totD (fs.map Pc.dat) = TN) := hTN
  clear hTN
  go_enter Try.func29, Try.ntmps29
  go_wp2_with (at_make; refine wpList_mk0 _ rfl _ _ 57 rfl Try.underlying57 info59 _ (TN + fs.length) rfl rfl (by omega) (by omega) (by decide) ?_)
  intro w1 hown1 hb1
  have HO1 : Hid (OwnP 59 w1 w.heap.size (.slice (some ⟨w.heap.size, 0, none⟩) 0 (TN + fs.length)) 0 ((toksTo (fs.map Pc.dat) 0 0).map tp)) := ⟨rfl, hown1⟩
  have HB1 : Hid (Below w.heap.size w w1) := hb1
  clear hown1 hb1
  go_wp2_with (at_make; refine wpList_mk0 _ rfl _ _ 24 rfl Try.underlying24 info3 _ TN rfl rfl (by omega) (by omega) (by decide) ?_)
  intro w2 hown2 hb2
  have HO2 : Hid (OwnK .i64 3 w2 w.heap.size (.slice (some ⟨w1.heap.size, 0, none⟩) 0 TN) 0 (atsTo (fs.map Pc.dat) 0 0)) := ⟨rfl, owns_mono hown2 HB1.out.size⟩
  have HO1' : Hid (OwnP 59 w2 w.heap.size (.slice (some ⟨w.heap.size, 0, none⟩) 0 (TN + fs.length)) 0 ((toksTo (fs.map Pc.dat) 0 0).map tp)) := HO1.out.below hb2
  have HB2 : Hid (Below w.heap.size w w2) := HB1.out.trans (hb2.mono HB1.out.size)
  clear hown2 hb2 HO1 HB1
  go_wp2_with fail
  go_loopw [7, 8, 9] (fun v7 v8 i wr => ∃ (j n1 n2 : Nat) (x7 : Option Addr) (c7 : Nat), j ≤ fs.length ∧ i = .int .i64 j ∧ v7 = .slice x7 n1 c7 ∧ OwnP 59 wr w.heap.size (.slice x7 n1 c7) n1 ((toksTo (fs.map Pc.dat) j 0).map tp) ∧ OwnK .i64 3 wr w.heap.size v8 n2 (atsTo (fs.map Pc.dat) j 0) ∧ Below w.heap.size w wr) (fun _ _ i _ => fs.length - (intOf i).toNat)
  case atStart => exact ⟨0, 0, 0, _, _, Nat.zero_le _, rfl, rfl, HO1'.out, HO2.out, HB2.out⟩
  case round =>
    obtain ⟨j, n1, n2, x7, c7, hj, rfl, rfl, hown7, hown8, hbel⟩ := hrel
    have H7 : Hid (OwnP 59 wr w.heap.size (.slice x7 n1 c7) n1 ((toksTo (fs.map Pc.dat) j 0).map tp)) := hown7
    have H8 : Hid (OwnK .i64 3 wr w.heap.size u8 n2 (atsTo (fs.map Pc.dat) j 0)) := hown8
    have hn1 : n1 ≤ 200000 := by
      have h9 := toksTo_length (fs.map Pc.dat) j 0 (by omega)
      have h8 := hown7.1
      have h7 := HTN.out
      rw [List.length_map] at h8 h9
      omega
    clear hown7 hown8
    by_cases hlt : j < fs.length
    · as_aux_lemma =>
      obtain ⟨b, off, rfl, hc0, hc1, hc2⟩ := HVF.out.cell hlt
      have hblt : b < w.heap.size := World.block_lt_of_cell? _ _ hc0
      have hlq := HLF.out _ (getD_memP fs j hlt)
      obtain ⟨qa, qc, hlv, hqn, -⟩ := IsLit.shape hlq
      have HLq : Hid (IsLit w (.slice qa ((fs.getD j Pc.nil).lit.getD []).length qc) (fs.getD j Pc.nil).lit) := by rw [hlv] at hlq; exact hlq
      have hnk := HFS.out _ (getD_memP fs j hlt)
      have HWq : Hid (WFr true (fs.getD j Pc.nil)) := hnk
      have g0 := hnk.1
      have g1 := hnk.2.1
      have HDJ : Hid ((fs.map Pc.dat).getD j (0, 0, none) = (fs.getD j Pc.nil).dat) := by
        show _ = _
        simp [List.getD, hlt]
      rw [hlv] at hc2
      have e0 : wr.cell? ⟨b, off + j * 3, none⟩ = some (.int .i64 (fs.getD j Pc.nil).off) := by rw [hbel.cell (p := ⟨b, _, none⟩) hblt]; exact hc0
      have e1 : wr.cell? ⟨b, off + j * 3 + 1, none⟩ = some (.int .i64 (fs.getD j Pc.nil).n) := by rw [hbel.cell (p := ⟨b, _, none⟩) hblt]; exact hc1
      have e2 : wr.cell? ⟨b, off + j * 3 + 2, none⟩ = some (.slice qa ((fs.getD j Pc.nil).lit.getD []).length qc) := by rw [hbel.cell (p := ⟨b, _, none⟩) hblt]; exact hc2
      clear hc0 hc1 hc2 hlq hnk
      have hne := fun (w : World) a n c => run_neq_slice_nil_any (P := Try.prog) w 22 5 a n c 0 0 Try.underlying22
      generalize fs.getD j Pc.nil = qk at *
      obtain ⟨qoff, qn, qlv, qlit⟩ := qk
      simp only at hlv hqn g0 g1 e0 e1 e2
      subst hlv
      obtain ⟨N, rfl⟩ := Int.eq_ofNat_of_zero_le g0
      have HFD : Hid (j < (fs.map Pc.dat).length) := by show _ < _; simpa using hlt
      by_cases hmk : qlit.isSome ∧ N = 0
      · as_aux_lemma =>
        obtain ⟨hm1, rfl⟩ := hmk
        have hqs : qa.isNone = false := by rw [hqn]; cases qlit <;> simp_all
        have HMK : Hid (((fs.map Pc.dat).getD j (0, 0, none)).2.2.isSome ∧ ((fs.map Pc.dat).getD j (0, 0, none)).2.1 = 0) := by rw [HDJ.out]; exact ⟨hm1, rfl⟩
        clear hqn hm1
        generalize (qlit.getD []).length = len at *
        have HO7 : OwnP 59 (wr.alloc (Obj.cells #[.int .i64 qoff, .int .i64 0, .slice qa len qc] 40)) w.heap.size (.slice x7 n1 c7) n1 ((toksTo (fs.map Pc.dat) j 0).map tp) := H7.out.alloc _
        have hsz := hbel.size
        go_wp2_with (at_builtin; refine wpList_appPB _ rfl _ _ 57 rfl Try.underlying57 info59 rfl rfl HO7 (tp (2, 0, (j : Int))) 59 rfl (by simp) rfl (by omega) (by decide) (by simp; omega) ?_)
        intro g1 cp w3 hown3 hb3 hgr3
        have H7' : Hid (OwnP 59 w3 w.heap.size (.slice (some ⟨g1, 0, none⟩) (n1 + 1) cp) (n1 + 1) ((toksTo (fs.map Pc.dat) (j + 1) 0).map tp)) := by
          rw [toksTo_mark _ j HFD.out HMK.out, List.map_append]
          exact hown3
        have H8' : Hid (OwnK .i64 3 w3 w.heap.size u8 n2 (atsTo (fs.map Pc.dat) (j + 1) 0)) := by
          rw [atsTo_mark _ j HFD.out HMK.out.2]
          exact ⟨H8.out.1, owns_kept HO7.2 (H8.out.2.alloc _) (by decide) hgr3⟩
        have HB3 : Hid (Below w.heap.size w w3) := (hbel.alloc hbel.size _).trans hb3
        clear hown3 hb3 hgr3 HO7
        go_wp2_with fail
        go_roundw
        case rel => exact ⟨j + 1, n1 + 1, n2, _, _, hlt, by go_num, rfl, H7'.out, H8'.out, HB3.out⟩
        case measure => simp [intOf]; omega
      · cases qlit with
        | some bs =>
            simp only [Option.isNone_some] at hqn
            simp only [Option.getD_some] at e2 HLq
            simp only [Option.isSome_some] at hmk
            have HMK : Hid (¬ (((fs.map Pc.dat).getD j (0, 0, none)).2.2.isSome ∧ ((fs.map Pc.dat).getD j (0, 0, none)).2.1 = 0)) := by
              rw [HDJ.out]
              intro hh
              exact hmk ⟨trivial, by have := hh.2; simp only [Pc.dat] at this; omega⟩
            have HNJ : Hid (((fs.map Pc.dat).getD j (0, 0, none)).2.1.toNat = N) := by
              rw [HDJ.out]
              show Int.toNat (N : Int) = N
              omega
            have HTK : Hid (∀ t, tokAt ((fs.map Pc.dat).getD j (0, 0, none)) j t = (1, bs.getD t 0, (j : Int))) := by
              rw [HDJ.out]
              intro t
              rfl
            have hN : ¬ N = 0 := fun h => hmk ⟨trivial, h⟩
            have HBL : Hid (bs.length = N) := by have h9 := HWq.out.2.2.1 bs rfl; simp only at h9; show _ = _; omega
            obtain ⟨lb, loff, rfl, hlc0⟩ := HLq.out.ints.cell (j := 0) (by have h9 := HBL.out; simp only [Option.getD_some]; omega)
            have hlb : lb < w.heap.size := World.block_lt_of_cell? _ _ hlc0
            clear hlc0
            have hd : (((N : Nat) : Int) == 0) = false := by simp; omega
            have hszo := hbel.size
            obtain ⟨wo, hwo⟩ : ∃ wo, wo = wr := ⟨_, rfl⟩
            subst hwo
            have HX0 : Hid (∀ o, (wo.alloc o).heap[wo.heap.size]? = some o) := fun o => by show _ = _; exact Go.heap_alloc_new wo o
            have H7a : Hid (∀ o, OwnP 59 (wo.alloc o) w.heap.size (.slice x7 n1 c7) n1 ((toksTo (fs.map Pc.dat) j 0).map tp)) := fun o => H7.out.alloc o
            have H8a : Hid (∀ o, OwnK .i64 3 (wo.alloc o) w.heap.size u8 n2 (atsTo (fs.map Pc.dat) j 0)) := fun o => H8.out.alloc o
            have HBa : Hid (∀ o, Below w.heap.size w (wo.alloc o)) := fun o => hbel.alloc hbel.size o
            go_wp2_with fail
            go_loopw [7, 8, 11] (fun v7 v8 tv w4 => ∃ (t m1 m2 : Nat) (x : Option Addr) (c : Nat), t ≤ N ∧ tv = .int .i64 t ∧ v7 = .slice x m1 c ∧ OwnP 59 w4 w.heap.size (.slice x m1 c) m1 ((toksTo (fs.map Pc.dat) j t).map tp) ∧ OwnK .i64 3 w4 w.heap.size v8 m2 (atsTo (fs.map Pc.dat) j t) ∧ Below w.heap.size w w4 ∧ w4.heap[wo.heap.size]? = some (.cells #[.int .i64 qoff, .int .i64 (N : Int), .slice (some ⟨lb, loff, none⟩) bs.length qc] 40 (0, 0))) (fun _ _ tv _ => N - (intOf tv).toNat)
            case atStart => exact ⟨0, n1, n2, _, _, Nat.zero_le _, rfl, rfl, H7a.out _, H8a.out _, HBa.out _, HX0.out _⟩
            case round =>
              obtain ⟨t, m1, m2, x, c, ht, rfl, rfl, hown7, hown8, hbel4, hbox⟩ := hrel
              have HX : Hid (wr.heap[wo.heap.size]? = some (.cells #[.int .i64 qoff, .int .i64 (N : Int), .slice (some ⟨lb, loff, none⟩) bs.length qc] 40 (0, 0))) := hbox
              have H7b : Hid (OwnP 59 wr w.heap.size (.slice x m1 c) m1 ((toksTo (fs.map Pc.dat) j t).map tp)) := hown7
              have H8b : Hid (OwnK .i64 3 wr w.heap.size u8 m2 (atsTo (fs.map Pc.dat) j t)) := hown8
              have hm1 : m1 ≤ 200000 := by
                have h9 := toksTo_length (fs.map Pc.dat) j t (by omega)
                have h8 := hown7.1
                have h7 := HTN.out
                rw [List.length_map] at h8 h9
                omega
              have hm2 : m2 ≤ 200000 := by
                have h9 := atsTo_length (fs.map Pc.dat) j t (by omega)
                have h8 := hown8.1
                have h7 := HTN.out
                omega
              obtain ⟨d0, d1, d2⟩ := box_cells hbox
              clear hown7 hown8 hbox
              by_cases htlt : t < N
              · as_aux_lemma =>
                have H8c := H8b.out
                have hsz4 := hbel4.size
                have htb : t < bs.length := by have h9 := HBL.out; omega
                have hlc : w.cell? ⟨lb, loff + t, none⟩ = some (.int .u8 (bs.getD t 0)) := by
                  obtain ⟨lb', loff', hh, hlc⟩ := HLq.out.ints.cell (j := t) (by have h9 := HBL.out; simp only [Option.getD_some]; omega)
                  simp only [Option.some.injEq, Addr.mk.injEq, and_true] at hh
                  obtain ⟨rfl, rfl⟩ := hh
                  exact hlc
                have hby := HLq.out.bytes t
                simp only [Option.getD_some] at hby
                have HLC : Hid (∀ w5, Below w.heap.size w w5 → w5.cell? ⟨lb, loff + t, none⟩ = some (.int .u8 (bs.getD t 0))) := fun w5 h => by rw [h.cell (p := ⟨lb, _, none⟩) hlb]; exact hlc
                clear hlc
                generalize hbt : bs.getD t 0 = bt at *
                have HBT : Hid (bs.getD t 0 = bt) := hbt
                clear hbt
                go_wp2_with (at_builtin; refine wpList_appK wr rfl _ _ 24 rfl Try.underlying24 info3 rfl H8c m1 3 rfl (by omega) (by decide) hbel4.size ?_)
                intro g1 cp w5 hown5 hb5 hgr5
                have H8d : Hid (OwnK .i64 3 w5 w.heap.size (.slice (some ⟨g1, 0, none⟩) (m2 + 1) cp) (m2 + 1) (atsTo (fs.map Pc.dat) j (t + 1))) := by
                  rw [atsTo_succ]
                  have h9 := H7b.out.1
                  rw [List.length_map] at h9
                  rw [h9]
                  exact hown5
                have H7d : Hid (OwnP 59 w5 w.heap.size (.slice x m1 c) m1 ((toksTo (fs.map Pc.dat) j t).map tp)) := ⟨H7b.out.1, owns_kept H8b.out.2 H7b.out.2 (by decide) hgr5⟩
                have HX5 : Hid (w5.heap[wo.heap.size]? = some (.cells #[.int .i64 qoff, .int .i64 (N : Int), .slice (some ⟨lb, loff, none⟩) bs.length qc] 40 (0, 0))) := block_kept H8b.out.2 HX.out (by decide) hgr5
                have hbel5 : Below w.heap.size w w5 := hbel4.trans hb5
                obtain ⟨k0, k1, k2⟩ := box_cells HX5.out
                have l5 := HLC.out w5 hbel5
                clear hown5 hb5 hgr5 d0 d1 d2 H8c
                have H7e := H7d.out
                have hsz5 := hbel5.size
                go_wp2_with (at_builtin; refine wpList_appPB w5 rfl _ _ 57 rfl Try.underlying57 info59 rfl rfl H7e (tp (1, bt, (j : Int))) 59 rfl rfl rfl (by omega) (by decide) hsz5 ?_)
                intro g2 cp2 w6 hown6 hb6 hgr6
                have H7f : Hid (OwnP 59 w6 w.heap.size (.slice (some ⟨g2, 0, none⟩) (m1 + 1) cp2) (m1 + 1) ((toksTo (fs.map Pc.dat) j (t + 1)).map tp)) := by
                  rw [toksTo_succ, HTK.out t, HBT.out, List.map_append]
                  exact hown6
                have H8f : Hid (OwnK .i64 3 w6 w.heap.size (.slice (some ⟨g1, 0, none⟩) (m2 + 1) cp) (m2 + 1) (atsTo (fs.map Pc.dat) j (t + 1))) := ⟨H8d.out.1, owns_kept H7d.out.2 H8d.out.2 (by decide) hgr6⟩
                have HX6 : Hid (w6.heap[wo.heap.size]? = some (.cells #[.int .i64 qoff, .int .i64 (N : Int), .slice (some ⟨lb, loff, none⟩) bs.length qc] 40 (0, 0))) := block_kept H7d.out.2 HX5.out (by decide) hgr6
                have HB6 : Hid (Below w.heap.size w w6) := hbel5.trans hb6
                clear hown6 hb6 hgr6 k0 k1 k2 H7e
                go_wp2_with fail
                go_roundw
                case rel => exact ⟨t + 1, m1 + 1, m2 + 1, _, _, htlt, by go_num, rfl, H7f.out, H8f.out, HB6.out, HX6.out⟩
                case measure => simp [intOf]; omega
              · as_aux_lemma =>
                have hte : t = N := by omega
                subst hte
                have H7f : Hid (OwnP 59 wr w.heap.size (.slice x m1 c) m1 ((toksTo (fs.map Pc.dat) (j + 1) 0).map tp)) := by
                  rw [← toksTo_next _ j HFD.out HMK.out, HNJ.out]
                  exact H7b.out
                have H8f : Hid (OwnK .i64 3 wr w.heap.size u8 m2 (atsTo (fs.map Pc.dat) (j + 1) 0)) := by
                  rw [← atsTo_next _ j HFD.out, HNJ.out]
                  exact H8b.out
                go_wp2_with fail
                go_roundw
                case rel => exact ⟨j + 1, m1, m2, _, _, hlt, by go_num, rfl, H7f.out, H8f.out, hbel4⟩
                case measure => simp [intOf]; omega
        | none =>
            simp only [Option.isNone_none] at hqn
            generalize hlenq : ((none : Option (List Int)).getD ([] : List Int)).length = len at *
            clear hlenq
            have HMK : Hid (¬ (((fs.map Pc.dat).getD j (0, 0, none)).2.2.isSome ∧ ((fs.map Pc.dat).getD j (0, 0, none)).2.1 = 0)) := by
              rw [HDJ.out]
              intro hh
              simp [Pc.dat] at hh
            have HNJ : Hid (((fs.map Pc.dat).getD j (0, 0, none)).2.1.toNat = N) := by
              rw [HDJ.out]
              show Int.toNat (N : Int) = N
              omega
            have HTK : Hid (∀ t, tokAt ((fs.map Pc.dat).getD j (0, 0, none)) j t = (0, qoff + (t : Int), 0)) := by
              rw [HDJ.out]
              intro t
              rfl
            have hqo := HWq.out.2.2.2 rfl rfl
            simp only at hqo
            have hszo := hbel.size
            obtain ⟨wo, hwo⟩ : ∃ wo, wo = wr := ⟨_, rfl⟩
            subst hwo
            have HX0 : Hid (∀ o, (wo.alloc o).heap[wo.heap.size]? = some o) := fun o => by show _ = _; exact Go.heap_alloc_new wo o
            have H7a : Hid (∀ o, OwnP 59 (wo.alloc o) w.heap.size (.slice x7 n1 c7) n1 ((toksTo (fs.map Pc.dat) j 0).map tp)) := fun o => H7.out.alloc o
            have H8a : Hid (∀ o, OwnK .i64 3 (wo.alloc o) w.heap.size u8 n2 (atsTo (fs.map Pc.dat) j 0)) := fun o => H8.out.alloc o
            have HBa : Hid (∀ o, Below w.heap.size w (wo.alloc o)) := fun o => hbel.alloc hbel.size o
            go_wp2_with fail
            go_loopw [7, 8, 11] (fun v7 v8 tv w4 => ∃ (t m1 m2 : Nat) (x : Option Addr) (c : Nat), t ≤ N ∧ tv = .int .i64 t ∧ v7 = .slice x m1 c ∧ OwnP 59 w4 w.heap.size (.slice x m1 c) m1 ((toksTo (fs.map Pc.dat) j t).map tp) ∧ OwnK .i64 3 w4 w.heap.size v8 m2 (atsTo (fs.map Pc.dat) j t) ∧ Below w.heap.size w w4 ∧ w4.heap[wo.heap.size]? = some (.cells #[.int .i64 qoff, .int .i64 (N : Int), .slice qa len qc] 40 (0, 0))) (fun _ _ tv _ => N - (intOf tv).toNat)
            case atStart => exact ⟨0, n1, n2, _, _, Nat.zero_le _, rfl, rfl, H7a.out _, H8a.out _, HBa.out _, HX0.out _⟩
            case round =>
              obtain ⟨t, m1, m2, x, c, ht, rfl, rfl, hown7, hown8, hbel4, hbox⟩ := hrel
              have HX : Hid (wr.heap[wo.heap.size]? = some (.cells #[.int .i64 qoff, .int .i64 (N : Int), .slice qa len qc] 40 (0, 0))) := hbox
              have H7b : Hid (OwnP 59 wr w.heap.size (.slice x m1 c) m1 ((toksTo (fs.map Pc.dat) j t).map tp)) := hown7
              have H8b : Hid (OwnK .i64 3 wr w.heap.size u8 m2 (atsTo (fs.map Pc.dat) j t)) := hown8
              have hm1 : m1 ≤ 200000 := by
                have h9 := toksTo_length (fs.map Pc.dat) j t (by omega)
                have h8 := hown7.1
                have h7 := HTN.out
                rw [List.length_map] at h8 h9
                omega
              have hm2 : m2 ≤ 200000 := by
                have h9 := atsTo_length (fs.map Pc.dat) j t (by omega)
                have h8 := hown8.1
                have h7 := HTN.out
                omega
              obtain ⟨d0, d1, d2⟩ := box_cells hbox
              clear hown7 hown8 hbox
              by_cases htlt : t < N
              · as_aux_lemma =>
                have H8c := H8b.out
                have hsz4 := hbel4.size
                go_wp2_with (at_builtin; refine wpList_appK wr rfl _ _ 24 rfl Try.underlying24 info3 rfl H8c m1 3 rfl (by omega) (by decide) hbel4.size ?_)
                intro g1 cp w5 hown5 hb5 hgr5
                have H8d : Hid (OwnK .i64 3 w5 w.heap.size (.slice (some ⟨g1, 0, none⟩) (m2 + 1) cp) (m2 + 1) (atsTo (fs.map Pc.dat) j (t + 1))) := by
                  rw [atsTo_succ]
                  have h9 := H7b.out.1
                  rw [List.length_map] at h9
                  rw [h9]
                  exact hown5
                have H7d : Hid (OwnP 59 w5 w.heap.size (.slice x m1 c) m1 ((toksTo (fs.map Pc.dat) j t).map tp)) := ⟨H7b.out.1, owns_kept H8b.out.2 H7b.out.2 (by decide) hgr5⟩
                have HX5 : Hid (w5.heap[wo.heap.size]? = some (.cells #[.int .i64 qoff, .int .i64 (N : Int), .slice qa len qc] 40 (0, 0))) := block_kept H8b.out.2 HX.out (by decide) hgr5
                have hbel5 : Below w.heap.size w w5 := hbel4.trans hb5
                obtain ⟨k0, k1, k2⟩ := box_cells HX5.out
                clear hown5 hb5 hgr5 d0 d1 d2 H8c
                have H7e := H7d.out
                have hsz5 := hbel5.size
                go_wp2_with (at_builtin; refine wpList_appPB w5 rfl _ _ 57 rfl Try.underlying57 info59 rfl rfl H7e (tp (0, qoff + (t : Int), 0)) 59 rfl rfl rfl (by omega) (by decide) hsz5 ?_)
                intro g2 cp2 w6 hown6 hb6 hgr6
                have H7f : Hid (OwnP 59 w6 w.heap.size (.slice (some ⟨g2, 0, none⟩) (m1 + 1) cp2) (m1 + 1) ((toksTo (fs.map Pc.dat) j (t + 1)).map tp)) := by
                  rw [toksTo_succ, HTK.out t, List.map_append]
                  exact hown6
                have H8f : Hid (OwnK .i64 3 w6 w.heap.size (.slice (some ⟨g1, 0, none⟩) (m2 + 1) cp) (m2 + 1) (atsTo (fs.map Pc.dat) j (t + 1))) := ⟨H8d.out.1, owns_kept H7d.out.2 H8d.out.2 (by decide) hgr6⟩
                have HX6 : Hid (w6.heap[wo.heap.size]? = some (.cells #[.int .i64 qoff, .int .i64 (N : Int), .slice qa len qc] 40 (0, 0))) := block_kept H7d.out.2 HX5.out (by decide) hgr6
                have HB6 : Hid (Below w.heap.size w w6) := hbel5.trans hb6
                clear hown6 hb6 hgr6 k0 k1 k2 H7e
                go_wp2_with fail
                go_roundw
                case rel => exact ⟨t + 1, m1 + 1, m2 + 1, _, _, htlt, by go_num, rfl, H7f.out, H8f.out, HB6.out, HX6.out⟩
                case measure => simp [intOf]; omega
              · as_aux_lemma =>
                have hte : t = N := by omega
                subst hte
                have H7f : Hid (OwnP 59 wr w.heap.size (.slice x m1 c) m1 ((toksTo (fs.map Pc.dat) (j + 1) 0).map tp)) := by
                  rw [← toksTo_next _ j HFD.out HMK.out, HNJ.out]
                  exact H7b.out
                have H8f : Hid (OwnK .i64 3 wr w.heap.size u8 m2 (atsTo (fs.map Pc.dat) (j + 1) 0)) := by
                  rw [← atsTo_next _ j HFD.out, HNJ.out]
                  exact H8b.out
                go_wp2_with fail
                go_roundw
                case rel => exact ⟨j + 1, m1, m2, _, _, hlt, by go_num, rfl, H7f.out, H8f.out, hbel4⟩
                case measure => simp [intOf]; omega
    · have hje : j = fs.length := by omega
      subst hje
      obtain ⟨wb, hwb⟩ : ∃ wb, wb = wr := ⟨_, rfl⟩
      subst hwb
      have HTS : Hid (IsPcs wb (.slice x7 n1 c7) ((toksAll (fs.map Pc.dat) 0).map tp)) := by
        have h9 := H7.out.pcs
        rw [toksTo_zero, List.take_of_length_le (by simp)] at h9
        exact h9
      have HAS : Hid (IsInts .i64 wb u8 (atsAll (fs.map Pc.dat) 0 0)) := by
        have h9 := H8.out.ints
        rw [atsTo_zero, List.take_of_length_le (by simp)] at h9
        exact h9
      have HN1 : Hid (n1 = (toksAll (fs.map Pc.dat) 0).length) := by
        have h9 := H7.out.1
        rw [toksTo_zero, List.take_of_length_le (by simp), List.length_map] at h9
        exact h9.symm
      have HALN : Hid ((atsAll (fs.map Pc.dat) 0 0).length = TN) := by
        have h9 := HTN.out
        rw [← h9]
        exact atsAll_length _ _ _
      obtain ⟨xa, ca, hu8, ca1, ca2, -⟩ := HAS.out
      rw [HALN.out] at hu8 ca1
      subst hu8
      unfold maxLen at ca2
      have HB : Hid (Below w.heap.size w wb) := hbel
      have HTL : Hid ((toksAll (fs.map Pc.dat) 0).length ≤ 69632) := by
        have h9 := toksAll_length (fs.map Pc.dat) 0
        have h8 := HTN.out
        rw [List.length_map] at h9
        show _ ≤ _
        omega
      have HWD : Hid (∀ q ∈ fs.map Pc.dat, WfD q) := by
        intro q hq
        obtain ⟨p, hp, rfl⟩ := List.mem_map.1 hq
        exact ⟨(HFS.out p hp).1, (HFS.out p hp).2.2.1⟩
      have HTK : Hid (∀ t ∈ toksAll (fs.map Pc.dat) 0, TokOk fs.length t) := toksAll_ok fs.length fs 0 (fun q hq => ⟨HFS.out q hq, fun bs hbs x hx => by
        have h9 := HLF.out q hq
        rw [hbs] at h9
        exact h9.2.2 x hx⟩) (by omega)
      have HS0 : Hid (St wb wb.heap.size [] (-1) 0) := ⟨fun q hq => by simp at hq, fun q hq => by simp at hq, by simp, fun h => absurd rfl h⟩
      clear hbel H7 H8 HO1' HO2 HB2 hlt hn1
      go_wp2_with fail
      go_loopw [12, 13, 14] (fun v12 g13 i14 w3 => ∃ (k n : Nat) (ws : List Pc) (x : Option Addr) (c : Nat) (g : Int), k ≤ ps.length ∧ i14 = .int .i64 k ∧ v12 = .slice x n c ∧ (n = 0 → Value.slice x n c = .slice none 0 0) ∧ g13 = .int .i64 g ∧ OwnP 40 w3 wb.heap.size (.slice x n c) n ws ∧ Below wb.heap.size wb w3 ∧ ws.map Pc.dat = rebD ((ps.take k).map Pc.dat) (fs.map Pc.dat) ∧ -1 ≤ g ∧ g < (k : Int) * ((fs.length : Int) + 1) + 1 ∧ St w3 wb.heap.size ws g (k * 70000)) (fun _ _ i _ => ps.length - (intOf i).toNat)
      case atStart => exact ⟨0, 0, [], none, 0, -1, Nat.zero_le _, rfl, rfl, fun _ => rfl, rfl, OwnP.nil _ _ _, Below.refl _ _, rfl, by omega, by omega, HS0.out⟩
      case round =>
        as_aux_lemma =>
        obtain ⟨k, n, ws, x, c, g, hk, rfl, rfl, hnil, rfl, hown, hbel, hdat, hg1, hg2, hst⟩ := hrel
        have HO : Hid (OwnP 40 wr wb.heap.size (.slice x n c) n ws) := hown
        have HD : Hid (ws.map Pc.dat = rebD ((ps.take k).map Pc.dat) (fs.map Pc.dat)) := hdat
        have HST : Hid (St wr wb.heap.size ws g (k * 70000)) := hst
        have HNIL : Hid (n = 0 → Value.slice x n c = .slice none 0 0) := hnil
        have hnl : n ≤ k * 70000 := by rw [← hown.1]; exact hst.len
        have HMU : Hid ((k : Int) * ((fs.length : Int) + 1) ≤ 16781312 ∧ 0 ≤ (k : Int) * ((fs.length : Int) + 1) ∧ ((k + 1 : Nat) : Int) * ((fs.length : Int) + 1) = (k : Int) * ((fs.length : Int) + 1) + ((fs.length : Int) + 1)) := by
          refine ⟨?_, Int.mul_nonneg (by omega) (by omega), ?_⟩
          · have := Int.mul_le_mul (show (k : Int) ≤ 4096 by omega) (show (fs.length : Int) + 1 ≤ 4097 by omega) (by omega) (by omega)
            omega
          · rw [Int.natCast_add, Int.add_mul]
            simp
        have HG2 : Hid (g < (k : Int) * ((fs.length : Int) + 1) + 1) := hg2
        clear hown hdat hst hnil hg2
        have hbw : Below w.heap.size w wr := HB.out.trans (hbel.mono HB.out.size)
        by_cases hlt : k < ps.length
        · obtain ⟨b, off, rfl, hc0, hc1, hc2⟩ := HVP.out.cell hlt
          have hblt : b < w.heap.size := World.block_lt_of_cell? _ _ hc0
          have hlp := HLP.out _ (getD_memP ps k hlt)
          obtain ⟨pa, pc, hlv, hpn, -⟩ := IsLit.shape hlp
          have hnk := HPS.out _ (getD_memP ps k hlt)
          have HIk : Hid ((ps.getD k Pc.nil).lit = none → 0 < (ps.getD k Pc.nil).n → 0 ≤ (ps.getD k Pc.nil).off ∧ (ps.getD k Pc.nil).off + (ps.getD k Pc.nil).n ≤ tot fs) := HIN.out _ (getD_memP ps k hlt)
          have hn0 := hnk.1
          have hn1 := hnk.2.1
          have HLp : Hid (IsLit wb (ps.getD k Pc.nil).lv (ps.getD k Pc.nil).lit) := hlp.below HB.out
          have HSD : Hid (rebD ((ps.take (k + 1)).map Pc.dat) (fs.map Pc.dat) = stepD (fs.map Pc.dat) (ws.map Pc.dat) (ps.getD k Pc.nil).dat) := by
            have h9 := HD.out
            rw [h9, take_snocP ps k hlt, List.map_append, rebD, List.foldl_append]
            rfl
          rw [hlv] at hc2
          have e0 : wr.cell? ⟨b, off + k * 3, none⟩ = some (.int .i64 (ps.getD k Pc.nil).off) := by rw [hbw.cell (p := ⟨b, _, none⟩) hblt]; exact hc0
          have e1 : wr.cell? ⟨b, off + k * 3 + 1, none⟩ = some (.int .i64 (ps.getD k Pc.nil).n) := by rw [hbw.cell (p := ⟨b, _, none⟩) hblt]; exact hc1
          have e2 : wr.cell? ⟨b, off + k * 3 + 2, none⟩ = some (.slice pa ((ps.getD k Pc.nil).lit.getD []).length pc) := by rw [hbw.cell (p := ⟨b, _, none⟩) hblt]; exact hc2
          clear hc0 hc1 hc2 hnk hlp
          have hne := fun (w : World) a n c => run_neq_slice_nil_any (P := Try.prog) w 22 5 a n c 0 0 Try.underlying22
          generalize ps.getD k Pc.nil = pk at *
          obtain ⟨poff, pn, plv, plit⟩ := pk
          simp only at hlv hpn hn0 hn1 e0 e1 e2
          subst hlv
          have hsz := hbel.size
          cases plit with
          | some bs =>
            as_aux_lemma =>
            simp only [Option.isNone_some] at hpn
            generalize hlenq : ((some bs).getD ([] : List Int)).length = len at *
            clear hlenq
            have HOA : OwnP 40 (wr.alloc (Obj.cells #[.int .i64 poff, .int .i64 pn, .slice pa len pc] 40)) wb.heap.size (.slice x n c) n ws := HO.out.alloc _
            have HSA : Hid (St (wr.alloc (Obj.cells #[.int .i64 poff, .int .i64 pn, .slice pa len pc] 40)) wb.heap.size ws g (k * 70000)) := HST.out.alloc _
            go_wp2_with (at_builtin; refine wpList_appW _ rfl _ _ rfl rfl HOA HNIL.out ⟨poff, pn, .slice pa len pc, some bs⟩ rfl (by simp) rfl (by omega) (by simp; omega) ?_)
            intro g1 cp w5 hown5 hb5 hgr5 _
            have HO5 : Hid (OwnP 40 w5 wb.heap.size (.slice (some ⟨g1, 0, none⟩) (n + 1) cp) (n + 1) (ws ++ [⟨poff, pn, .slice pa len pc, some bs⟩])) := hown5
            have hb6 : Below wb.heap.size wb w5 := (hbel.alloc hbel.size _).trans hb5
            have HB5 : Hid (Below wb.heap.size wb w5) := hb6
            have HS5 : Hid (St w5 wb.heap.size (ws ++ [⟨poff, pn, .slice pa len pc, some bs⟩]) (-1) ((k + 1) * 70000)) := HSA.out.laid HOA.2 hgr5 (LitM.came HLp.out hb6 _) ⟨hn0, fun hh => by simp at hh⟩ (by omega)
            clear hown5 hb5 hgr5 hb6 HOA
            go_wp2_with fail
            go_roundw
            case rel =>
              refine ⟨k + 1, n + 1, _, _, _, -1, hlt, by go_num, rfl, fun h => by omega, rfl, HO5.out, HB5.out, ?_, by omega, ?_, HS5.out⟩
              · rw [HSD.out, List.map_append]
                rfl
              · have h9 := HMU.out
                omega
            case measure => simp [intOf]; omega
          | none =>
            simp only [Option.isNone_none] at hpn
            have HIz : Hid (0 < pn → 0 ≤ poff ∧ poff + pn ≤ tot fs) := HIk.out rfl
            clear HIk
            generalize hlenq : ((none : Option (List Int)).getD ([] : List Int)).length = len at *
            clear hlenq
            by_cases hz : 0 < pn
            · obtain ⟨O, rfl⟩ := Int.eq_ofNat_of_zero_le (HIz.out hz).1
              obtain ⟨N, rfl⟩ := Int.eq_ofNat_of_zero_le hn0
              have hON : O + N ≤ TN := by
                have h8 := (HIz.out hz).2
                have h9 := HTD.out
                omega
              obtain ⟨I1, hI1⟩ : ∃ I1, I1 + 1 = O + N := ⟨O + N - 1, by omega⟩
              have hidx : (O : Int) + (N : Int) - 1 = (I1 : Int) := by omega
              have HI1 : Hid (I1 = O + N - 1) := by show _ = _; omega
              have hI1T : I1 < TN := by omega
              have hOT : O < TN := by omega
              clear hI1
              obtain ⟨ab, ao, rfl, hca0⟩ := HAS.out.cell (j := O) (by rw [HALN.out]; exact hOT)
              have hca1 : wb.cell? ⟨ab, ao + I1, none⟩ = some (.int .i64 ((atsAll (fs.map Pc.dat) 0 0).getD I1 0)) := by
                obtain ⟨ab', ao', hh, hlc⟩ := HAS.out.cell (j := I1) (by rw [HALN.out]; exact hI1T)
                simp only [Option.some.injEq, Addr.mk.injEq, and_true] at hh
                obtain ⟨rfl, rfl⟩ := hh
                exact hlc
              rw [atsAll_getD _ _ _ _ (by rw [HTN.out]; exact hOT), Nat.zero_add] at hca0
              rw [atsAll_getD _ _ _ _ (by rw [HTN.out]; exact hI1T), Nat.zero_add] at hca1
              have hP01 : pos (fs.map Pc.dat) 0 O ≤ pos (fs.map Pc.dat) 0 I1 := pos_mono _ _ _ _ (by have h9 := HI1.out; omega) (by rw [HTN.out]; exact hI1T)
              have hP1 : pos (fs.map Pc.dat) 0 I1 < n1 := by rw [HN1.out]; exact pos_lt _ _ _ (by rw [HTN.out]; exact hI1T)
              have hablt : ab < wb.heap.size := World.block_lt_of_cell? _ _ hca0
              have HFF : Hid (∃ g', (((toksAll (fs.map Pc.dat) 0).take (pos (fs.map Pc.dat) 0 I1 + 1)).drop (pos (fs.map Pc.dat) 0 O)).foldl (tokStep fs.length k) (ws.map Pc.dat, g) = (rebD ((ps.take (k + 1)).map Pc.dat) (fs.map Pc.dat), g') ∧ g' < (k : Int) * ((fs.length : Int) + 1) + fs.length + 1) := by
                obtain ⟨g', r1, r2⟩ := fold_from fs.length k N (by omega) (fs.map Pc.dat) 0 O (ws.map Pc.dat) g HWD.out (by rw [HTN.out]; exact hON) (by have h9 := HG2.out; omega)
                refine ⟨g', ?_, ?_⟩
                · rw [HI1.out, HSD.out, r1]
                  show _ = (if 0 < (N : Int) then runFrom (fs.map Pc.dat) (Int.toNat (O : Int)) (Int.toNat (N : Int)) (ws.map Pc.dat) else _, g')
                  rw [if_pos hz, Int.toNat_natCast, Int.toNat_natCast]
                · simp only [List.length_map, Nat.zero_add] at r2
                  omega
              generalize pos (fs.map Pc.dat) 0 O = P0 at *
              generalize pos (fs.map Pc.dat) 0 I1 = P1 at *
              have HAC : Hid (∀ w5, Below wb.heap.size wb w5 → w5.cell? ⟨ab, ao + O, none⟩ = some (.int .i64 P0) ∧ w5.cell? ⟨ab, ao + I1, none⟩ = some (.int .i64 P1)) := fun w5 h => ⟨by rw [h.cell (p := ⟨ab, _, none⟩) hablt]; exact hca0, by rw [h.cell (p := ⟨ab, _, none⟩) hablt]; exact hca1⟩
              clear hca0 hca1 HI1
              obtain ⟨wo, hwo⟩ : ∃ wo, wo = wr := ⟨_, rfl⟩
              subst hwo
              have HX0 : Hid (∀ o, (wo.alloc o).heap[wo.heap.size]? = some o) := fun o => by show _ = _; exact Go.heap_alloc_new wo o
              have HSA : Hid (∀ o, St (wo.alloc o) wb.heap.size ws g (k * 70000 + (P0 - P0))) := fun o => (HST.out.alloc o).mono (by omega)
              have HOA : Hid (∀ o, OwnP 40 (wo.alloc o) wb.heap.size (.slice x n c) n ws) := fun o => HO.out.alloc o
              have HBA : Hid (∀ o, Below wb.heap.size wb (wo.alloc o)) := fun o => hbel.alloc hbel.size o
              have HXN : Hid (some wo.heap.size ≠ (Value.slice x n c).ownBlock) := by
                intro hh
                have := (HO.out.2.lt _ hh.symm).2
                omega
              have hA0 : ∀ o, (wo.alloc o).cell? ⟨ab, ao + O, none⟩ = some (.int .i64 P0) := fun o => (HAC.out _ (HBA.out o)).1
              have hON2 : (O : Int) + N ≤ 65536 := by omega
              go_wp2_with fail
              go_loopw [12, 13, 16] (fun v12 g13 tv w4 => ∃ (t n' : Nat) (ws' : List Pc) (x' : Option Addr) (c' : Nat) (g' : Int), P0 ≤ t ∧ t ≤ P1 + 1 ∧ tv = .int .i64 t ∧ v12 = .slice x' n' c' ∧ (n' = 0 → Value.slice x' n' c' = .slice none 0 0) ∧ g13 = .int .i64 g' ∧ OwnP 40 w4 wb.heap.size (.slice x' n' c') n' ws' ∧ Below wb.heap.size wb w4 ∧ (ws'.map Pc.dat, g') = (((toksAll (fs.map Pc.dat) 0).take t).drop P0).foldl (tokStep fs.length k) (ws.map Pc.dat, g) ∧ -1 ≤ g' ∧ St w4 wb.heap.size ws' g' (k * 70000 + (t - P0)) ∧
                w4.heap[wo.heap.size]? = some (.cells #[.int .i64 O, .int .i64 N, .slice pa len pc] 40 (0, 0)) ∧ some wo.heap.size ≠ (Value.slice x' n' c').ownBlock) (fun _ _ tv _ => P1 + 1 - (intOf tv).toNat)
              case atStart =>
                refine ⟨P0, n, ws, x, c, g, Nat.le_refl _, by omega, rfl, rfl, HNIL.out, rfl, HOA.out _, HBA.out _, ?_, hg1, HSA.out _, HX0.out _, HXN.out⟩
                rw [drop_take_self]
                rfl
              case round =>
                as_aux_lemma =>
                obtain ⟨t, n', ws', x', c', g', ht0, ht1, rfl, rfl, hnil', rfl, hown4, hbel4, hfold, hg', hst4, hbox, hbne⟩ := hrel
                have HO4 : Hid (OwnP 40 wr wb.heap.size (.slice x' n' c') n' ws') := hown4
                have HS4 : Hid (St wr wb.heap.size ws' g' (k * 70000 + (t - P0))) := hst4
                have HF4 : Hid ((ws'.map Pc.dat, g') = (((toksAll (fs.map Pc.dat) 0).take t).drop P0).foldl (tokStep fs.length k) (ws.map Pc.dat, g)) := hfold
                have HN4 : Hid (n' = 0 → Value.slice x' n' c' = .slice none 0 0) := hnil'
                have HX4 : Hid (wr.heap[wo.heap.size]? = some (.cells #[.int .i64 O, .int .i64 N, .slice pa len pc] 40 (0, 0))) := hbox
                have HXN4 : Hid (some wo.heap.size ≠ (Value.slice x' n' c').ownBlock) := hbne
                have hn4 : n' ≤ k * 70000 + (t - P0) := by rw [← hown4.1]; exact hst4.len
                have hTL : n1 ≤ 69632 := by rw [HN1.out]; exact HTL.out
                obtain ⟨d0, d1, d2⟩ := box_cells hbox
                obtain ⟨a0, a1⟩ := HAC.out wr hbel4
                clear hown4 hfold hst4 hnil' hbox hbne
                have hsz4 := hbel4.size
                by_cases htlt : t ≤ P1
                · obtain ⟨tb, tof, rfl, hq0, hq1, hq2⟩ := HTS.out.cell (j := t) (by rw [List.length_map, ← HN1.out]; omega)
                  rw [tp_getD _ t (by rw [← HN1.out]; omega)] at hq0 hq1 hq2
                  have hok := HTK.out ((toksAll (fs.map Pc.dat) 0).getD t (0, 0, 0)) (by
                    have h9 : t < (toksAll (fs.map Pc.dat) 0).length := by rw [← HN1.out]; omega
                    simp [List.getD, h9])
                  have HTT : Hid (∀ s, (((toksAll (fs.map Pc.dat) 0).take t).drop P0).foldl (tokStep fs.length k) (ws.map Pc.dat, g) = s → (((toksAll (fs.map Pc.dat) 0).take (t + 1)).drop P0).foldl (tokStep fs.length k) (ws.map Pc.dat, g) = tokStep fs.length k s ((toksAll (fs.map Pc.dat) 0).getD t (0, 0, 0))) := by
                    intro s hs
                    rw [drop_take_succ _ _ _ ht0 (by rw [← HN1.out]; omega), List.foldl_append, hs]
                    rfl
                  have htblt : tb < wb.heap.size := World.block_lt_of_cell? _ _ hq0
                  generalize (toksAll (fs.map Pc.dat) 0).getD t (0, 0, 0) = tok at *
                  obtain ⟨kd, vv, src⟩ := tok
                  have r0 : wr.cell? ⟨tb, tof + t * 3, none⟩ = some (.int .i64 kd) := by rw [hbel4.cell (p := ⟨tb, _, none⟩) htblt]; exact hq0
                  have r1 : wr.cell? ⟨tb, tof + t * 3 + 1, none⟩ = some (.int .i64 vv) := by rw [hbel4.cell (p := ⟨tb, _, none⟩) htblt]; exact hq1
                  have r2 : wr.cell? ⟨tb, tof + t * 3 + 2, none⟩ = some (.int .i64 src) := by rw [hbel4.cell (p := ⟨tb, _, none⟩) htblt]; exact hq2
                  obtain ⟨hkd, hsr0, hsr1⟩ := hok
                  simp only at hkd hsr0 hsr1
                  clear hq0 hq1 hq2
                  have htn : t < n1 := by omega
                  have HFN : Hid ((((toksAll (fs.map Pc.dat) 0).take (t + 1)).drop P0).foldl (tokStep fs.length k) (ws.map Pc.dat, g) = tokStep fs.length k (ws'.map Pc.dat, g') (kd, vv, src)) := HTT.out _ HF4.out.symm
                  clear HTT HF4
                  by_cases hk0 : kd = 0
                  · subst hk0
                    have hvv : 0 ≤ vv ∧ vv ≤ 2305843009213759486 := by
                      rcases hkd with h | h | h
                      · exact ⟨h.2.1, h.2.2⟩
                      · omega
                      · omega
                    clear hkd
                    by_cases hws : ws' = []
                    · as_aux_lemma =>
                      subst hws
                      obtain rfl : n' = 0 := HO4.out.1.symm
                      have hv0 := HN4.out rfl
                      simp only [Value.slice.injEq] at hv0
                      obtain ⟨rfl, -, rfl⟩ := hv0
                      go_wp2_with fail
                      go_quiet (fail)
                      have HOB : OwnP 40 ((wr.alloc (Obj.cells #[.int .i64 0, .int .i64 vv, .int .i64 src] 59)).drewN nq) wb.heap.size (.slice none 0 0) (0) ([]) := (HO4.out.alloc _).drewN nq
                      have HSB : Hid (St ((wr.alloc (Obj.cells #[.int .i64 0, .int .i64 vv, .int .i64 src] 59)).drewN nq) wb.heap.size ([]) g' (k * 70000 + (t - P0))) := (HS4.out.alloc _).drew nq
                      have HXB : Hid (((wr.alloc (Obj.cells #[.int .i64 0, .int .i64 vv, .int .i64 src] 59)).drewN nq).heap[wo.heap.size]? = some (.cells #[.int .i64 O, .int .i64 N, .slice pa len pc] 40 (0, 0))) := block_alloc _ HX4.out
                      have HBB : Hid (Below wb.heap.size wb ((wr.alloc (Obj.cells #[.int .i64 0, .int .i64 vv, .int .i64 src] 59)).drewN nq)) := below_drewN' (hbel4.alloc hbel4.size _) nq
                      go_wp2_with (at_builtin; refine wpList_appW _ rfl _ _ rfl rfl HOB (fun _ => rfl) (segRun vv 1) rfl (by simp) rfl (by omega) (by simp; omega) ?_)
                      intro g1 cp w5 hown5 hb5 hgr5 hbx5
                      have HO5 : Hid (OwnP 40 w5 wb.heap.size (.slice (some ⟨g1, 0, none⟩) (0 + 1) cp) (0 + 1) (([]) ++ [segRun vv 1])) := hown5
                      have HB5 : Hid (Below wb.heap.size wb w5) := HBB.out.trans hb5
                      have HS5 : Hid (St w5 wb.heap.size (([]) ++ [segRun vv 1]) (-1) (k * 70000 + (t + 1 - P0))) := HSB.out.laid HOB.2 hgr5 (litM_run _ _ _ _ _) ⟨by show (0 : Int) ≤ 1; omega, fun _ => by show 0 ≤ vv ∧ vv + 1 ≤ _; omega⟩ (by omega)
                      have HX5 : Hid (w5.heap[wo.heap.size]? = some (.cells #[.int .i64 O, .int .i64 N, .slice pa len pc] 40 (0, 0)) ∧ wo.heap.size ≠ g1) := hbx5 _ _ _ _ HXB.out HXN4.out
                      clear hown5 hb5 hgr5 hbx5 HOB
                      go_wp2_with fail
                      go_roundw
                      case rel =>
                        refine ⟨t + 1, 0 + 1, _, _, _, -1, by omega, by omega, by go_num, rfl, fun h => by omega, rfl, HO5.out, HB5.out, ?_, by omega, HS5.out, HX5.out.1, ?_⟩
                        · rw [HFN.out, tokStep_first, List.map_append]
                          rw [List.map_nil, joinD_nil _ (by simp)]; rfl
                        · simp only [Value.ownBlock]
                          intro hh
                          exact HX5.out.2 (by simpa using hh)
                      case measure => simp [intOf]; omega
                    · obtain ⟨qs, l, rfl⟩ := snoc_of ws' hws
                      clear hws
                      obtain ⟨gb, cp0, hv, rfl, hbg, hglt, hcp1, hcp2, cc0, cc1, cc2, cfr⟩ := HO4.out.lastCells
                      simp only [Value.slice.injEq, true_and] at hv
                      obtain ⟨rfl, rfl⟩ := hv
                      unfold maxLen at hcp2
                      have hlitl := (HS4.out.lits l (by simp)).1
                      have hnuml := HS4.out.nums l (by simp)
                      obtain ⟨la, lc, hlv, hla, -⟩ := IsLit.shape hlitl
                      rw [hlv] at cc2
                      have D0 : ∀ o, (wr.alloc o).cell? ⟨gb, qs.length * 3, none⟩ = some (.int .i64 l.off) := fun o => by rw [World.cell?_alloc_lt _ _ _ (by exact hglt)]; exact cc0
                      have D1 : ∀ o, (wr.alloc o).cell? ⟨gb, qs.length * 3 + 1, none⟩ = some (.int .i64 l.n) := fun o => by rw [World.cell?_alloc_lt _ _ _ (by exact hglt)]; exact cc1
                      have D2 : ∀ o, (wr.alloc o).cell? ⟨gb, qs.length * 3 + 2, none⟩ = some (.slice la (l.lit.getD []).length lc) := fun o => by rw [World.cell?_alloc_lt _ _ _ (by exact hglt)]; exact cc2
                      have DF : ∀ o y, (wr.alloc o).frozen? ⟨gb, y, none⟩ = false := fun o y => by rw [World.frozen?_alloc_old _ _ _ (by simp; omega)]; exact cfr y
                      have hnil := fun (w : World) a n c => Lib.run_eql_slice_nil (P := Try.prog) w 22 5 a n c 0 0 Try.underlying22
                      obtain ⟨loff, ln, llv, llit⟩ := l
                      simp only at hlv hla D0 D1 D2 hnuml
                      subst hlv
                      clear hlitl cc0 cc1 cc2 cfr
                      cases llit with
                      | some lbs =>
                        as_aux_lemma =>
                        simp only [Option.isNone_some] at hla
                        have HJN : Hid (joinD ((qs ++ [(⟨loff, ln, .slice la ((some lbs).getD ([] : List Int)).length lc, some lbs⟩ : Pc)]).map Pc.dat) (vv, 1, none) = (qs ++ [(⟨loff, ln, .slice la ((some lbs).getD ([] : List Int)).length lc, some lbs⟩ : Pc)]).map Pc.dat ++ [(vv, 1, none)]) := by
                          rw [List.map_append]
                          exact joinD_snoc _ _ _ (by simp) (fun hh => by simp [Pc.dat] at hh)
                        generalize hlq : ((some lbs).getD ([] : List Int)).length = llen at *
                        clear hlq
                        go_wp2_with fail
                        go_quiet (fail)
                        clear D0 D1 D2 DF hnil
                        have HOB : OwnP 40 ((wr.alloc (Obj.cells #[.int .i64 0, .int .i64 vv, .int .i64 src] 59)).drewN nq) wb.heap.size (.slice (some ⟨gb, 0, none⟩) (qs.length + 1) c') (qs.length + 1) (qs ++ [⟨loff, ln, .slice la llen lc, some lbs⟩]) := (HO4.out.alloc _).drewN nq
                        have HSB : Hid (St ((wr.alloc (Obj.cells #[.int .i64 0, .int .i64 vv, .int .i64 src] 59)).drewN nq) wb.heap.size (qs ++ [⟨loff, ln, .slice la llen lc, some lbs⟩]) g' (k * 70000 + (t - P0))) := (HS4.out.alloc _).drew nq
                        have HXB : Hid (((wr.alloc (Obj.cells #[.int .i64 0, .int .i64 vv, .int .i64 src] 59)).drewN nq).heap[wo.heap.size]? = some (.cells #[.int .i64 O, .int .i64 N, .slice pa len pc] 40 (0, 0))) := block_alloc _ HX4.out
                        have HBB : Hid (Below wb.heap.size wb ((wr.alloc (Obj.cells #[.int .i64 0, .int .i64 vv, .int .i64 src] 59)).drewN nq)) := below_drewN' (hbel4.alloc hbel4.size _) nq
                        go_wp2_with (at_builtin; refine wpList_appW _ rfl _ _ rfl rfl HOB HN4.out (segRun vv 1) rfl (by simp) rfl (by omega) (by simp; omega) ?_)
                        intro g1 cp w5 hown5 hb5 hgr5 hbx5
                        have HO5 : Hid (OwnP 40 w5 wb.heap.size (.slice (some ⟨g1, 0, none⟩) (qs.length + 1 + 1) cp) (qs.length + 1 + 1) ((qs ++ [⟨loff, ln, .slice la llen lc, some lbs⟩]) ++ [segRun vv 1])) := by first | exact hown5 | (rw [List.append_assoc]; exact hown5)
                        have HB5 : Hid (Below wb.heap.size wb w5) := HBB.out.trans hb5
                        have HS5 : Hid (St w5 wb.heap.size ((qs ++ [⟨loff, ln, .slice la llen lc, some lbs⟩]) ++ [segRun vv 1]) (-1) (k * 70000 + (t + 1 - P0))) := HSB.out.laid HOB.2 hgr5 (litM_run _ _ _ _ _) ⟨by show (0 : Int) ≤ 1; omega, fun _ => by show 0 ≤ vv ∧ vv + 1 ≤ _; omega⟩ (by omega)
                        have HX5 : Hid (w5.heap[wo.heap.size]? = some (.cells #[.int .i64 O, .int .i64 N, .slice pa len pc] 40 (0, 0)) ∧ wo.heap.size ≠ g1) := hbx5 _ _ _ _ HXB.out HXN4.out
                        clear hown5 hb5 hgr5 hbx5 HOB
                        go_wp2_with fail
                        go_roundw
                        case rel =>
                          refine ⟨t + 1, qs.length + 1 + 1, _, _, _, -1, by omega, by omega, by go_num, rfl, fun h => by omega, rfl, HO5.out, HB5.out, ?_, by omega, HS5.out, HX5.out.1, ?_⟩
                          · rw [HFN.out, tokStep_first, List.map_append]
                            rw [HJN.out]; rfl
                          · simp only [Value.ownBlock]
                            intro hh
                            exact HX5.out.2 (by simpa using hh)
                        case measure => simp [intOf]; omega
                      | none =>
                        simp only [Option.isNone_none] at hla
                        have hnl2 := hnuml.2 rfl
                        have hnl1 := hnuml.1
                        by_cases heq : loff + ln = vv
                        · as_aux_lemma =>
                          have heq' : (loff + ln == vv) = true := by simpa using heq
                          have HMG : Hid (loff + ln = vv) := heq
                          have HJM : Hid (joinD ((qs ++ [(⟨loff, ln, .slice la ((none : Option (List Int)).getD ([] : List Int)).length lc, none⟩ : Pc)]).map Pc.dat) (vv, 1, none) = qs.map Pc.dat ++ [(loff, ln + 1, none)]) := by
                            rw [List.map_append]
                            exact joinD_merge _ _ _ (by simp) ⟨rfl, rfl, heq⟩
                          clear heq
                          generalize hlq : ((none : Option (List Int)).getD ([] : List Int)).length = llen at *
                          clear hlq
                          go_wp2_with fail
                          go_quiet (fail)
                          have HOB : OwnP 40 ((wr.alloc (Obj.cells #[.int .i64 0, .int .i64 vv, .int .i64 src] 59)).drewN nq) wb.heap.size (.slice (some ⟨gb, 0, none⟩) (qs.length + 1) c') (qs.length + 1) (qs ++ [⟨loff, ln, .slice la llen lc, none⟩]) := (HO4.out.alloc _).drewN nq
                          have HSB : Hid (St ((wr.alloc (Obj.cells #[.int .i64 0, .int .i64 vv, .int .i64 src] 59)).drewN nq) wb.heap.size (qs ++ [⟨loff, ln, .slice la llen lc, none⟩]) g' (k * 70000 + (t - P0))) := (HS4.out.alloc _).drew nq
                          have HXB : Hid (((wr.alloc (Obj.cells #[.int .i64 0, .int .i64 vv, .int .i64 src] 59)).drewN nq).heap[wo.heap.size]? = some (.cells #[.int .i64 O, .int .i64 N, .slice pa len pc] 40 (0, 0))) := block_alloc _ HX4.out
                          have HBB : Hid (Below wb.heap.size wb ((wr.alloc (Obj.cells #[.int .i64 0, .int .i64 vv, .int .i64 src] 59)).drewN nq)) := below_drewN' (hbel4.alloc hbel4.size _) nq
                          have HOM : Hid (OwnP 40 (((wr.alloc (Obj.cells #[.int .i64 0, .int .i64 vv, .int .i64 src] 59)).drewN nq).setCell ⟨gb, qs.length * 3 + 1, none⟩ (.int .i64 (ln + 1))) wb.heap.size (.slice (some ⟨gb, 0, none⟩) (qs.length + 1) c') (qs.length + 1) (qs ++ [⟨loff, ln + 1, .slice la llen lc, none⟩])) := HOB.setLast (ln + 1)
                          have HSM : Hid (St (((wr.alloc (Obj.cells #[.int .i64 0, .int .i64 vv, .int .i64 src] 59)).drewN nq).setCell ⟨gb, qs.length * 3 + 1, none⟩ (.int .i64 (ln + 1))) wb.heap.size (qs ++ [⟨loff, ln + 1, .slice la llen lc, none⟩]) (-1) (k * 70000 + (t + 1 - P0))) := by
                            have h9 := HSB.out.merged HOB.2 (grown_set _ gb (qs.length * 3 + 1) (.int .i64 (ln + 1))) rfl (by have h8 := HMG.out; simp only; omega)
                            exact h9.mono (by omega)
                          have HBM : Hid (Below wb.heap.size wb (((wr.alloc (Obj.cells #[.int .i64 0, .int .i64 vv, .int .i64 src] 59)).drewN nq).setCell ⟨gb, qs.length * 3 + 1, none⟩ (.int .i64 (ln + 1)))) := Below.setCell (p := ⟨gb, qs.length * 3 + 1, none⟩) HBB.out hbg _
                          have HXM : Hid ((((wr.alloc (Obj.cells #[.int .i64 0, .int .i64 vv, .int .i64 src] 59)).drewN nq).setCell ⟨gb, qs.length * 3 + 1, none⟩ (.int .i64 (ln + 1))).heap[wo.heap.size]? = some (.cells #[.int .i64 O, .int .i64 N, .slice pa len pc] 40 (0, 0))) := by
                            rw [(grown_set _ gb (qs.length * 3 + 1) (.int .i64 (ln + 1))).block _ (Array.getElem?_eq_some_iff.1 HXB.out).1 (by have h9 := HXN4.out; simpa [Value.ownBlock] using h9)]
                            exact HXB.out
                          clear HOB
                          go_wp2_with fail
                          go_roundw
                          case rel =>
                            refine ⟨t + 1, qs.length + 1, _, _, _, -1, by omega, by omega, by go_num, rfl, fun h => by omega, rfl, HOM.out, HBM.out, ?_, by omega, HSM.out, HXM.out, HXN4.out⟩
                            rw [HFN.out, tokStep_first, HJM.out, List.map_append]
                            rfl
                          case measure => simp [intOf]; omega
                        · as_aux_lemma =>
                          have heq' : (loff + ln == vv) = false := by simpa using heq
                          have HJN : Hid (joinD ((qs ++ [(⟨loff, ln, .slice la ((none : Option (List Int)).getD ([] : List Int)).length lc, none⟩ : Pc)]).map Pc.dat) (vv, 1, none) = (qs ++ [(⟨loff, ln, .slice la ((none : Option (List Int)).getD ([] : List Int)).length lc, none⟩ : Pc)]).map Pc.dat ++ [(vv, 1, none)]) := by
                            rw [List.map_append]
                            exact joinD_snoc _ _ _ (by simp) (fun hh => by exact heq hh.2.2)
                          generalize hlq : ((none : Option (List Int)).getD ([] : List Int)).length = llen at *
                          clear hlq heq
                          go_wp2_with fail
                          go_quiet (fail)
                          clear D0 D1 D2 DF hnil
                          have HOB : OwnP 40 ((wr.alloc (Obj.cells #[.int .i64 0, .int .i64 vv, .int .i64 src] 59)).drewN nq) wb.heap.size (.slice (some ⟨gb, 0, none⟩) (qs.length + 1) c') (qs.length + 1) (qs ++ [⟨loff, ln, .slice la llen lc, none⟩]) := (HO4.out.alloc _).drewN nq
                          have HSB : Hid (St ((wr.alloc (Obj.cells #[.int .i64 0, .int .i64 vv, .int .i64 src] 59)).drewN nq) wb.heap.size (qs ++ [⟨loff, ln, .slice la llen lc, none⟩]) g' (k * 70000 + (t - P0))) := (HS4.out.alloc _).drew nq
                          have HXB : Hid (((wr.alloc (Obj.cells #[.int .i64 0, .int .i64 vv, .int .i64 src] 59)).drewN nq).heap[wo.heap.size]? = some (.cells #[.int .i64 O, .int .i64 N, .slice pa len pc] 40 (0, 0))) := block_alloc _ HX4.out
                          have HBB : Hid (Below wb.heap.size wb ((wr.alloc (Obj.cells #[.int .i64 0, .int .i64 vv, .int .i64 src] 59)).drewN nq)) := below_drewN' (hbel4.alloc hbel4.size _) nq
                          go_wp2_with (at_builtin; refine wpList_appW _ rfl _ _ rfl rfl HOB HN4.out (segRun vv 1) rfl (by simp) rfl (by omega) (by simp; omega) ?_)
                          intro g1 cp w5 hown5 hb5 hgr5 hbx5
                          have HO5 : Hid (OwnP 40 w5 wb.heap.size (.slice (some ⟨g1, 0, none⟩) (qs.length + 1 + 1) cp) (qs.length + 1 + 1) ((qs ++ [⟨loff, ln, .slice la llen lc, none⟩]) ++ [segRun vv 1])) := by first | exact hown5 | (rw [List.append_assoc]; exact hown5)
                          have HB5 : Hid (Below wb.heap.size wb w5) := HBB.out.trans hb5
                          have HS5 : Hid (St w5 wb.heap.size ((qs ++ [⟨loff, ln, .slice la llen lc, none⟩]) ++ [segRun vv 1]) (-1) (k * 70000 + (t + 1 - P0))) := HSB.out.laid HOB.2 hgr5 (litM_run _ _ _ _ _) ⟨by show (0 : Int) ≤ 1; omega, fun _ => by show 0 ≤ vv ∧ vv + 1 ≤ _; omega⟩ (by omega)
                          have HX5 : Hid (w5.heap[wo.heap.size]? = some (.cells #[.int .i64 O, .int .i64 N, .slice pa len pc] 40 (0, 0)) ∧ wo.heap.size ≠ g1) := hbx5 _ _ _ _ HXB.out HXN4.out
                          clear hown5 hb5 hgr5 hbx5 HOB
                          go_wp2_with fail
                          go_roundw
                          case rel =>
                            refine ⟨t + 1, qs.length + 1 + 1, _, _, _, -1, by omega, by omega, by go_num, rfl, fun h => by omega, rfl, HO5.out, HB5.out, ?_, by omega, HS5.out, HX5.out.1, ?_⟩
                            · rw [HFN.out, tokStep_first, List.map_append]
                              rw [HJN.out]; rfl
                            · simp only [Value.ownBlock]
                              intro hh
                              exact HX5.out.2 (by simpa using hh)
                          case measure => simp [intOf]; omega
                  · have hG : 0 ≤ (k : Int) * ((fs.length : Int) + 1) ∧ (k : Int) * ((fs.length : Int) + 1) ≤ 16781312 := ⟨HMU.out.2.1, HMU.out.1⟩
                    have hk0' : (kd == 0) = false := by simpa using hk0
                    by_cases hgg : (k : Int) * ((fs.length : Int) + 1) + src + 1 = g'
                    · obtain ⟨qs, l, rfl, hcur⟩ := HS4.out.cur (by omega)
                      have HCU : Hid (CurL wr wb.heap.size (k * 70000 + (t - P0)) qs l) := hcur
                      clear hcur
                      by_cases hk1 : kd = 1
                      · as_aux_lemma =>
                        subst hk1
                        have hvv : 0 ≤ vv ∧ vv ≤ 255 := by omega
                        have hwv : IntKind.u8.wrap vv = vv := by rw [IntKind.wrap_u8]; omega
                        have HGG : Hid ((k : Int) * ((fs.length : Int) + 1) + src + 1 = g') := hgg
                        have hgg' : ((k : Int) * ((fs.length : Int) + 1) + src + 1 == g') = true := by simpa using hgg
                        obtain ⟨bs, base, lc, lg, hl1, hln, hbL, hby, hlv, hrow, hB1, hB2, hlq⟩ := HCU.out
                        obtain ⟨gb, cp0, hv, rfl, hbg, hglt, hcp1, hcp2, cc0, cc1, cc2, cfr⟩ := HO4.out.lastCells
                        simp only [Value.slice.injEq, true_and] at hv
                        obtain ⟨rfl, rfl⟩ := hv
                        unfold maxLen at hcp2
                        obtain ⟨loff, ln, llv, llit⟩ := l
                        simp only at hl1 hln hlv cc0 cc1 cc2 hrow
                        subst hl1 hln hlv
                        have HTF : Hid (tokStep fs.length k ((qs ++ [(⟨loff, (bs.length : Int), .slice (some ⟨lg, 0, none⟩) bs.length lc, some bs⟩ : Pc)]).map Pc.dat, g') (1, vv, src) = (qs.map Pc.dat ++ [(loff, (bs.length : Int) + 1, some (bs ++ [vv]))], g')) := by
                          rw [List.map_append]
                          exact tokStep_same _ _ _ _ _ _ _ _ _ HGG.out
                        have HOW : Hid (OwnP 40 (wr.alloc (Obj.cells #[.int .i64 1, .int .i64 vv, .int .i64 src] 59)) wb.heap.size (.slice (some ⟨gb, 0, none⟩) (qs.length + 1) c') (qs.length + 1) (qs ++ [⟨loff, (bs.length : Int), .slice (some ⟨lg, 0, none⟩) bs.length lc, some bs⟩])) := HO4.out.alloc _
                        have HRW : Hid ((wr.alloc (Obj.cells #[.int .i64 1, .int .i64 vv, .int .i64 src] 59)).ownsRow base 5 1 (.slice (some ⟨lg, 0, none⟩) bs.length lc) bs.length (bs.map (Value.int .u8))) := hrow.alloc _
                        have HLQ : Hid (∀ q ∈ qs, LitM (wr.alloc (Obj.cells #[.int .i64 1, .int .i64 vv, .int .i64 src] 59)) wb.heap.size base q) := fun q hq => (hlq q hq).keep fun b hb _ => Below.heap_alloc _ _ _ hb
                        have HBY : Hid (∀ x ∈ bs, 0 ≤ x ∧ x ≤ 255) := hby
                        have HNQ : Hid (∀ q ∈ qs, NumM q) := fun q hq => HS4.out.nums q (by simp [hq])
                        have HXW : Hid ((wr.alloc (Obj.cells #[.int .i64 1, .int .i64 vv, .int .i64 src] 59)).heap[wo.heap.size]? = some (.cells #[.int .i64 O, .int .i64 N, .slice pa len pc] 40 (0, 0))) := block_alloc _ HX4.out
                        have HXNW : Hid (some wo.heap.size ≠ (Value.slice (some ⟨gb, 0, none⟩) (qs.length + 1) c').ownBlock) := HXN4.out
                        have hql : qs.length + 1 ≤ k * 70000 + (t - P0) := hn4
                        have hBB4 : Below wb.heap.size wb (wr.alloc (Obj.cells #[.int .i64 1, .int .i64 vv, .int .i64 src] 59)) := hbel4.alloc hbel4.size _
                        have hB2W : base ≤ (wr.alloc (Obj.cells #[.int .i64 1, .int .i64 vv, .int .i64 src] 59)).heap.size := by simp; omega
                        have D1 : ∀ o, (wr.alloc o).cell? ⟨gb, qs.length * 3 + 1, none⟩ = some (.int .i64 bs.length) := fun o => by rw [World.cell?_alloc_lt _ _ _ (by exact hglt)]; exact cc1
                        have D2 : ∀ o, (wr.alloc o).cell? ⟨gb, qs.length * 3 + 2, none⟩ = some (.slice (some ⟨lg, 0, none⟩) bs.length lc) := fun o => by rw [World.cell?_alloc_lt _ _ _ (by exact hglt)]; exact cc2
                        have D1' : ∀ o o', ((wr.alloc o).alloc o').cell? ⟨gb, qs.length * 3 + 1, none⟩ = some (.int .i64 bs.length) := fun o o' => by rw [World.cell?_alloc_lt _ _ _ (by simp; omega)]; exact D1 o
                        have D2' : ∀ o o', ((wr.alloc o).alloc o').cell? ⟨gb, qs.length * 3 + 2, none⟩ = some (.slice (some ⟨lg, 0, none⟩) bs.length lc) := fun o o' => by rw [World.cell?_alloc_lt _ _ _ (by simp; omega)]; exact D2 o
                        clear hgg hrow hlq hby cc0 cc1 cc2 cfr
                        have HCL : Hid (∀ (W1 w6 : World) (g6 c6 : Nat), W1.grownBy w6 (Value.slice (some ⟨lg, 0, none⟩) bs.length lc).ownBlock → W1.heap = ((wr.alloc (Obj.cells #[.int .i64 1, .int .i64 vv, .int .i64 src] 59)).alloc (Obj.cells #[.int .u8 vv] 5)).heap → Below wb.heap.size wb W1 → w6.ownsRow base 5 1 (.slice (some ⟨g6, 0, none⟩) (bs.length + 1) c6) (bs.length + 1) (bs.map (Value.int .u8) ++ [.int .u8 vv]) →
                            OwnP 40 ((w6.setCell ⟨gb, qs.length * 3 + 2, none⟩ (.slice (some ⟨g6, 0, none⟩) (bs.length + 1) c6)).setCell ⟨gb, qs.length * 3 + 1, none⟩ (.int .i64 ((bs.length : Int) + 1))) wb.heap.size (.slice (some ⟨gb, 0, none⟩) (qs.length + 1) c') (qs.length + 1) (qs ++ [⟨loff, (bs.length : Int) + 1, .slice (some ⟨g6, 0, none⟩) (bs.length + 1) c6, some (bs ++ [vv])⟩]) ∧
                            Below wb.heap.size wb ((w6.setCell ⟨gb, qs.length * 3 + 2, none⟩ (.slice (some ⟨g6, 0, none⟩) (bs.length + 1) c6)).setCell ⟨gb, qs.length * 3 + 1, none⟩ (.int .i64 ((bs.length : Int) + 1))) ∧
                            St ((w6.setCell ⟨gb, qs.length * 3 + 2, none⟩ (.slice (some ⟨g6, 0, none⟩) (bs.length + 1) c6)).setCell ⟨gb, qs.length * 3 + 1, none⟩ (.int .i64 ((bs.length : Int) + 1))) wb.heap.size (qs ++ [⟨loff, (bs.length : Int) + 1, .slice (some ⟨g6, 0, none⟩) (bs.length + 1) c6, some (bs ++ [vv])⟩]) g' (k * 70000 + (t + 1 - P0)) ∧
                            ((w6.setCell ⟨gb, qs.length * 3 + 2, none⟩ (.slice (some ⟨g6, 0, none⟩) (bs.length + 1) c6)).setCell ⟨gb, qs.length * 3 + 1, none⟩ (.int .i64 ((bs.length : Int) + 1))).heap[wo.heap.size]? = some (.cells #[.int .i64 O, .int .i64 N, .slice pa len pc] 40 (0, 0))) := by
                          intro W1 w6 g6 c6 z4 z1 z2 z3
                          have y1 : OwnP 40 W1 wb.heap.size (.slice (some ⟨gb, 0, none⟩) (qs.length + 1) c') (qs.length + 1) (qs ++ [⟨loff, (bs.length : Int), .slice (some ⟨lg, 0, none⟩) bs.length lc, some bs⟩]) := ⟨HOW.out.1, owns_heap (HOW.out.2.alloc _) z1⟩
                          have y2 : W1.ownsRow base 5 1 (.slice (some ⟨lg, 0, none⟩) bs.length lc) bs.length (bs.map (Value.int .u8)) := owns_heap (HRW.out.alloc _) z1
                          have y3 : W1.heap[wo.heap.size]? = some (.cells #[.int .i64 O, .int .i64 N, .slice pa len pc] 40 (0, 0)) := by rw [z1]; exact block_alloc _ HXW.out
                          have y4 : OwnP 40 w6 wb.heap.size (.slice (some ⟨gb, 0, none⟩) (qs.length + 1) c') (qs.length + 1) (qs ++ [⟨loff, (bs.length : Int), .slice (some ⟨lg, 0, none⟩) bs.length lc, some bs⟩]) := ⟨y1.1, owns_kept y2 y1.2 (by decide) z4⟩
                          have y5 : w6.heap[wo.heap.size]? = some (.cells #[.int .i64 O, .int .i64 N, .slice pa len pc] 40 (0, 0)) := block_kept y2 y3 (by decide) z4
                          have s1 : w6.grownBy (w6.setCell ⟨gb, qs.length * 3 + 2, none⟩ (.slice (some ⟨g6, 0, none⟩) (bs.length + 1) c6)) (some gb) := grown_set _ _ _ _
                          have s2 := grown_trans s1 (grown_set (w6.setCell ⟨gb, qs.length * 3 + 2, none⟩ (.slice (some ⟨g6, 0, none⟩) (bs.length + 1) c6)) gb (qs.length * 3 + 1) (.int .i64 ((bs.length : Int) + 1)))
                          have y6 : Below wb.heap.size wb w6 := z2.grown z4 z2.size (fun b hb => Nat.le_trans hB1 (y2.lt b hb).1)
                          refine ⟨(y4.setLit _ (some (bs ++ [vv]))).setLast ((bs.length : Int) + 1), Below.setCell (p := ⟨gb, _, none⟩) (Below.setCell (p := ⟨gb, _, none⟩) y6 hbg _) hbg _, ?_, ?_⟩
                          · exact St.byted (l := ⟨loff, 0, .slice none 0 0, none⟩) HNQ.out (by omega) (fun q hq => (HLQ.out q hq).keep fun b hb _ => by rw [z1]; exact Below.heap_alloc _ _ _ hb) hB1 (by rw [z1]; simp; omega) y2 (by omega) HBY.out hvv y1.2 z4 rfl z3 s2
                          · rw [s2.block _ (Array.getElem?_eq_some_iff.1 y5).1 (by have h9 := HXNW.out; simpa [Value.ownBlock] using h9)]
                            exact y5
                        have HKP : Hid (∀ W1 w6 : World, W1.grownBy w6 (Value.slice (some ⟨lg, 0, none⟩) bs.length lc).ownBlock → W1.heap = ((wr.alloc (Obj.cells #[.int .i64 1, .int .i64 vv, .int .i64 src] 59)).alloc (Obj.cells #[.int .u8 vv] 5)).heap → w6.cell? ⟨gb, qs.length * 3 + 1, none⟩ = some (.int .i64 bs.length) ∧ w6.cell? ⟨gb, qs.length * 3 + 2, none⟩ = some (.slice (some ⟨lg, 0, none⟩) bs.length lc) ∧ (∀ y, w6.frozen? ⟨gb, y, none⟩ = false)) := by
                          intro W1 w6 z4 z1
                          have y1 : W1.ownsRow wb.heap.size 40 3 (.slice (some ⟨gb, 0, none⟩) (qs.length + 1) c') (qs.length + 1) _ := owns_heap (HOW.out.2.alloc _) z1
                          have y2 : W1.ownsRow base 5 1 (.slice (some ⟨lg, 0, none⟩) bs.length lc) bs.length (bs.map (Value.int .u8)) := owns_heap (HRW.out.alloc _) z1
                          have y4 : OwnP 40 w6 wb.heap.size (.slice (some ⟨gb, 0, none⟩) (qs.length + 1) c') (qs.length + 1) (qs ++ [⟨loff, (bs.length : Int), .slice (some ⟨lg, 0, none⟩) bs.length lc, some bs⟩]) := ⟨HOW.out.1, owns_kept y2 y1 (by decide) z4⟩
                          obtain ⟨gb', cp', hv', -, -, -, -, -, k0, k1, k2, k3⟩ := y4.lastCells
                          simp only [Value.slice.injEq, Option.some.injEq, Addr.mk.injEq, true_and, and_true] at hv'
                          obtain ⟨rfl, rfl⟩ := hv'
                          exact ⟨k1, k2, k3⟩
                        have hii : (qs.length : Int) < (qs.length : Int) + 1 := by omega
                        go_wp2_with fail
                        refine byte_region _ (by as_aux_lemma => kernel_rfl) _ _ gb qs.length c' wr.heap.size lg lc base vv bs (wr.alloc (Obj.cells #[.int .i64 1, .int .i64 vv, .int .i64 src] 59)) wb _ _ _ _ _ _ _ _ _ _ _ _ _ _ _ _ _ _ _ _ _ _ _ _ _ _ _ _ _ _ _ _ _ _ _ _ _ _ _ _ _ _ _ _ _ _ _ _ _ _ _ _ _ _ _ _ _ _ _ _ _ _ _ _ _ _ _ _ _ _ _ _ _ _ _ _ _ _ _ _ _ _ _ _ _ _ _ _ _ _ _ _ _ _ _ _ _ _ _ _ _ _ _ _ _ _ _ _ _ _ _ _ _ _ _ _ _ _ _ _ _ _ _ _ _ _ _ _ _ _ _ _ _ _ _ _ _ _ _ _ _ _ _ _ _ _ _ _ _ _ _ _ _ _ _ _ _ _ _ _ _ _ _ _ _ _ _ _ _ _ _ _ _ _ _ _ _ _ _ _ _ _ _ _ _ _ _ _ _ _ _ _ _ _ _ _ _ _ _ _ _ _ _ _ _ _ _ _ _ _ _ _ _ _ _ _ _ _ _ _ _ _ _ _ _ (by rw [World.cell?_alloc_new]; rfl) hvv.1 hvv.2 (by omega) (D2 _) HRW.out hB2W hBB4 (fun W1 w6 z4 z1 => (HKP.out W1 w6 z4 z1).2) ?_
                        intro W1 w6 g6 c6 x203 x204 x205 x206 x207 x208 x209 x210 x211 x212 x213 x214 x215 x216 hg6 hz1 hz2 hr6
                        obtain ⟨y1, y2, y3⟩ := HKP.out W1 w6 hg6 hz1
                        have HC6 : Hid _ := HCL.out W1 w6 g6 c6 hg6 hz1 hz2 hr6
                        clear hr6 hg6 hz1 hz2
                        go_wp2_with fail
                        go_roundw
                        case rel =>
                          refine ⟨t + 1, qs.length + 1, _, _, _, g', by omega, by omega, by go_num, rfl, fun h => by omega, rfl, HC6.out.1, HC6.out.2.1, ?_, by omega, HC6.out.2.2.1, HC6.out.2.2.2, HXN4.out⟩
                          rw [HFN.out, HTF.out, List.map_append]
                          rfl
                        case measure => simp [intOf]; omega
                      · as_aux_lemma =>
                        obtain rfl : kd = 2 := by omega
                        have HSA4 : Hid (∀ o, St (wr.alloc o) wb.heap.size (qs ++ [l]) g' (k * 70000 + (t + 1 - P0))) := fun o => (HS4.out.alloc o).mono (by omega)
                        have HOA4 : Hid (∀ o, OwnP 40 (wr.alloc o) wb.heap.size (.slice x' n' c') n' (qs ++ [l])) := fun o => HO4.out.alloc o
                        have HBA4 : Hid (∀ o, Below wb.heap.size wb (wr.alloc o)) := fun o => hbel4.alloc hbel4.size o
                        have HXA4 : Hid (∀ o, (wr.alloc o).heap[wo.heap.size]? = some (.cells #[.int .i64 O, .int .i64 N, .slice pa len pc] 40 (0, 0))) := fun o => block_alloc o HX4.out
                        have HGG : Hid ((k : Int) * ((fs.length : Int) + 1) + src + 1 = g') := hgg
                        have hgg' : ((k : Int) * ((fs.length : Int) + 1) + src + 1 == g') = true := by simpa using hgg
                        clear hgg
                        go_wp2_with fail
                        go_roundw
                        case rel =>
                          refine ⟨t + 1, n', _, _, _, g', by omega, by omega, by go_num, rfl, HN4.out, rfl, HOA4.out _, HBA4.out _, ?_, hg', HSA4.out _, HXA4.out _, HXN4.out⟩
                          rw [HFN.out, tokStep_mark_same _ _ _ _ _ _ HGG.out]
                        case measure => simp [intOf]; omega
                    · as_aux_lemma =>
                      have HGG : Hid (¬ (k : Int) * ((fs.length : Int) + 1) + src + 1 = g') := hgg
                      have hgg' : ((k : Int) * ((fs.length : Int) + 1) + src + 1 == g') = false := by simpa using hgg
                      clear hgg
                      have HOB : Hid (∀ o, OwnP 40 ((wr.alloc (Obj.cells #[.int .i64 kd, .int .i64 vv, .int .i64 src] 59)).alloc o) wb.heap.size (.slice x' n' c') n' ws') := fun o => (HO4.out.alloc _).alloc o
                      have HOC := HOB.out (Obj.cells #[] 5)
                      have HSB : Hid (St (wr.alloc (Obj.cells #[.int .i64 kd, .int .i64 vv, .int .i64 src] 59)) wb.heap.size ws' g' (k * 70000 + (t - P0))) := HS4.out.alloc _
                      have HXB : Hid (((wr.alloc (Obj.cells #[.int .i64 kd, .int .i64 vv, .int .i64 src] 59)).alloc (Obj.cells #[] 5)).heap[wo.heap.size]? = some (.cells #[.int .i64 O, .int .i64 N, .slice pa len pc] 40 (0, 0))) := block_alloc _ (block_alloc _ HX4.out)
                      have HBB : Hid (Below wb.heap.size wb ((wr.alloc (Obj.cells #[.int .i64 kd, .int .i64 vv, .int .i64 src] 59)).alloc (Obj.cells #[] 5))) := (hbel4.alloc hbel4.size _).alloc (by simp; omega) _
                      have HTB : Hid (((wr.alloc (Obj.cells #[.int .i64 kd, .int .i64 vv, .int .i64 src] 59)).alloc (Obj.cells #[] 5)).heap[wr.heap.size]? = some (.cells #[.int .i64 kd, .int .i64 vv, .int .i64 src] 59 (0, 0))) := block_alloc _ (Go.heap_alloc_new wr _)
                      go_wp2_with (at_builtin; refine wpList_appW _ rfl _ _ rfl rfl HOC HN4.out (newLit (wr.heap.size + 1)) rfl (by simp) rfl (by omega) (by simp; omega) ?_)
                      intro g1 cp w5 hown5 hb5 hgr5 hbx5
                      have HO5 : Hid (OwnP 40 w5 wb.heap.size (.slice (some ⟨g1, 0, none⟩) (n' + 1) cp) (n' + 1) (ws' ++ [newLit (wr.heap.size + 1)])) := hown5
                      have hb6 : Below wb.heap.size wb w5 := HBB.out.trans hb5
                      have HB5 : Hid (Below wb.heap.size wb w5) := hb6
                      have HS5 : Hid (St w5 wb.heap.size (ws' ++ [newLit (wr.heap.size + 1)]) ((k : Int) * ((fs.length : Int) + 1) + src + 1) (k * 70000 + (t + 1 - P0))) := by
                        have h9 := St.begun (g' := (k : Int) * ((fs.length : Int) + 1) + src + 1) HSB.out (by simp; omega) (HO4.out.alloc _).2 hgr5
                        have h8 : (wr.alloc (Obj.cells #[.int .i64 kd, .int .i64 vv, .int .i64 src] 59)).heap.size = wr.heap.size + 1 := by simp
                        rw [h8] at h9
                        exact h9.mono (by omega)
                      have HX5 : Hid (w5.heap[wo.heap.size]? = some (.cells #[.int .i64 O, .int .i64 N, .slice pa len pc] 40 (0, 0)) ∧ wo.heap.size ≠ g1) := hbx5 _ _ _ _ HXB.out HXN4.out
                      have HT5 : Hid (w5.heap[wr.heap.size]? = some (.cells #[.int .i64 kd, .int .i64 vv, .int .i64 src] 59 (0, 0))) := block_kept HOC.2 HTB.out (by decide) hgr5
                      obtain ⟨m0, m1, m2⟩ := box_cells HT5.out
                      clear hown5 hb5 hgr5 hbx5 HOC hb6
                      by_cases hk1 : kd = 1
                      · as_aux_lemma =>
                        subst hk1
                        have hvv : 0 ≤ vv ∧ vv ≤ 255 := by omega
                        have hwv : IntKind.u8.wrap vv = vv := by rw [IntKind.wrap_u8]; omega
                        obtain rfl : ws'.length = n' := HO4.out.1
                        obtain ⟨qs0, l0, hql0, hcur0⟩ := HS5.out.cur (by omega)
                        obtain ⟨rfl, rfl⟩ : ws' = qs0 ∧ newLit (wr.heap.size + 1) = l0 := by
                          have h9 := List.append_inj' hql0 rfl
                          exact ⟨h9.1, by simpa using h9.2⟩
                        obtain ⟨bs, base, lc, lg, hl1, hln, -, hby, hlv, hrow, hB1, hB2, hlq⟩ := hcur0
                        have hBE : [] = bs := by simpa [newLit] using hl1
                        have HBE : Hid ([] = bs) := hBE
                        clear hBE
                        have hbL : bs.length ≤ k * 70000 + (t - P0) := by rw [← HBE.out]; exact Nat.zero_le _
                        have HNL : Hid (newLit (wr.heap.size + 1) = ⟨0, (bs.length : Int), .slice (some ⟨lg, 0, none⟩) bs.length lc, some bs⟩) := by
                          show Pc.mk 0 0 (.slice (some ⟨wr.heap.size + 1, 0, none⟩) 0 0) (some []) = _
                          rw [Pc.mk.injEq]
                          exact ⟨rfl, hln, hlv, hl1⟩
                        have HTF : Hid (tokStep fs.length k (ws'.map Pc.dat, g') (1, vv, src) = (ws'.map Pc.dat ++ [(0, (bs.length : Int) + 1, some (bs ++ [vv]))], ((k : Int) * ((fs.length : Int) + 1) + src + 1))) := by
                          rw [← HBE.out]
                          exact tokStep_new _ _ _ _ _ _ HGG.out
                        have HOW : Hid (OwnP 40 w5 wb.heap.size (.slice (some ⟨g1, 0, none⟩) (ws'.length + 1) cp) (ws'.length + 1) (ws' ++ [⟨0, (bs.length : Int), .slice (some ⟨lg, 0, none⟩) bs.length lc, some bs⟩])) := by
                          have h9 := HO5.out
                          rw [HNL.out] at h9
                          exact h9
                        obtain ⟨gb, cp0, hv, -, hbg, hglt, hcp1, hcp2, cc0, cc1, cc2, cfr⟩ := HOW.out.lastCells
                        simp only [Value.slice.injEq, Option.some.injEq, Addr.mk.injEq, true_and, and_true] at hv
                        obtain ⟨rfl, rfl⟩ := hv
                        unfold maxLen at hcp2
                        have HRW : Hid (w5.ownsRow base 5 1 (.slice (some ⟨lg, 0, none⟩) bs.length lc) bs.length (bs.map (Value.int .u8))) := by
                          rw [hlv] at hrow
                          exact hrow
                        have HLQ : Hid (∀ q ∈ ws', LitM w5 wb.heap.size base q) := hlq
                        have HBY : Hid (∀ x ∈ bs, 0 ≤ x ∧ x ≤ 255) := hby
                        have HNQ : Hid (∀ q ∈ ws', NumM q) := HS4.out.nums
                        have HXW : Hid (w5.heap[wo.heap.size]? = some (.cells #[.int .i64 O, .int .i64 N, .slice pa len pc] 40 (0, 0))) := HX5.out.1
                        have HXNW : Hid (some wo.heap.size ≠ (Value.slice (some ⟨g1, 0, none⟩) (ws'.length + 1) cp).ownBlock) := by
                          simp only [Value.ownBlock]
                          intro hh
                          exact HX5.out.2 (by simpa using hh)
                        have hql : ws'.length ≤ k * 70000 + (t - P0) := hn4
                        have hBB4 : Below wb.heap.size wb w5 := HB5.out
                        have hB2W : base ≤ w5.heap.size := hB2
                        have D1' : ∀ o', (w5.alloc o').cell? ⟨g1, ws'.length * 3 + 1, none⟩ = some (.int .i64 bs.length) := fun o' => by rw [World.cell?_alloc_lt _ _ _ (by exact hglt)]; exact cc1
                        have D2' : ∀ o', (w5.alloc o').cell? ⟨g1, ws'.length * 3 + 2, none⟩ = some (.slice (some ⟨lg, 0, none⟩) bs.length lc) := fun o' => by rw [World.cell?_alloc_lt _ _ _ (by exact hglt)]; exact cc2
                        clear hrow hlq hby hl1 hln hlv hql0 cc0 hB2
                        have HCL : Hid (∀ (W1 w6 : World) (g6 c6 : Nat), W1.grownBy w6 (Value.slice (some ⟨lg, 0, none⟩) bs.length lc).ownBlock → W1.heap = (w5.alloc (Obj.cells #[.int .u8 vv] 5)).heap → Below wb.heap.size wb W1 → w6.ownsRow base 5 1 (.slice (some ⟨g6, 0, none⟩) (bs.length + 1) c6) (bs.length + 1) (bs.map (Value.int .u8) ++ [.int .u8 vv]) →
                            OwnP 40 ((w6.setCell ⟨g1, ws'.length * 3 + 2, none⟩ (.slice (some ⟨g6, 0, none⟩) (bs.length + 1) c6)).setCell ⟨g1, ws'.length * 3 + 1, none⟩ (.int .i64 ((bs.length : Int) + 1))) wb.heap.size (.slice (some ⟨g1, 0, none⟩) (ws'.length + 1) cp) (ws'.length + 1) (ws' ++ [⟨0, (bs.length : Int) + 1, .slice (some ⟨g6, 0, none⟩) (bs.length + 1) c6, some (bs ++ [vv])⟩]) ∧
                            Below wb.heap.size wb ((w6.setCell ⟨g1, ws'.length * 3 + 2, none⟩ (.slice (some ⟨g6, 0, none⟩) (bs.length + 1) c6)).setCell ⟨g1, ws'.length * 3 + 1, none⟩ (.int .i64 ((bs.length : Int) + 1))) ∧
                            St ((w6.setCell ⟨g1, ws'.length * 3 + 2, none⟩ (.slice (some ⟨g6, 0, none⟩) (bs.length + 1) c6)).setCell ⟨g1, ws'.length * 3 + 1, none⟩ (.int .i64 ((bs.length : Int) + 1))) wb.heap.size (ws' ++ [⟨0, (bs.length : Int) + 1, .slice (some ⟨g6, 0, none⟩) (bs.length + 1) c6, some (bs ++ [vv])⟩]) ((k : Int) * ((fs.length : Int) + 1) + src + 1) (k * 70000 + (t + 1 - P0)) ∧
                            ((w6.setCell ⟨g1, ws'.length * 3 + 2, none⟩ (.slice (some ⟨g6, 0, none⟩) (bs.length + 1) c6)).setCell ⟨g1, ws'.length * 3 + 1, none⟩ (.int .i64 ((bs.length : Int) + 1))).heap[wo.heap.size]? = some (.cells #[.int .i64 O, .int .i64 N, .slice pa len pc] 40 (0, 0))) := by
                          intro W1 w6 g6 c6 z4 z1 z2 z3
                          have y1 : OwnP 40 W1 wb.heap.size (.slice (some ⟨g1, 0, none⟩) (ws'.length + 1) cp) (ws'.length + 1) (ws' ++ [⟨0, (bs.length : Int), .slice (some ⟨lg, 0, none⟩) bs.length lc, some bs⟩]) := ⟨HOW.out.1, owns_heap (HOW.out.2.alloc _) z1⟩
                          have y2 : W1.ownsRow base 5 1 (.slice (some ⟨lg, 0, none⟩) bs.length lc) bs.length (bs.map (Value.int .u8)) := owns_heap (HRW.out.alloc _) z1
                          have y3 : W1.heap[wo.heap.size]? = some (.cells #[.int .i64 O, .int .i64 N, .slice pa len pc] 40 (0, 0)) := by rw [z1]; exact block_alloc _ HXW.out
                          have y4 : OwnP 40 w6 wb.heap.size (.slice (some ⟨g1, 0, none⟩) (ws'.length + 1) cp) (ws'.length + 1) (ws' ++ [⟨0, (bs.length : Int), .slice (some ⟨lg, 0, none⟩) bs.length lc, some bs⟩]) := ⟨y1.1, owns_kept y2 y1.2 (by decide) z4⟩
                          have y5 : w6.heap[wo.heap.size]? = some (.cells #[.int .i64 O, .int .i64 N, .slice pa len pc] 40 (0, 0)) := block_kept y2 y3 (by decide) z4
                          have s1 : w6.grownBy (w6.setCell ⟨g1, ws'.length * 3 + 2, none⟩ (.slice (some ⟨g6, 0, none⟩) (bs.length + 1) c6)) (some g1) := grown_set _ _ _ _
                          have s2 := grown_trans s1 (grown_set (w6.setCell ⟨g1, ws'.length * 3 + 2, none⟩ (.slice (some ⟨g6, 0, none⟩) (bs.length + 1) c6)) g1 (ws'.length * 3 + 1) (.int .i64 ((bs.length : Int) + 1)))
                          have y6 : Below wb.heap.size wb w6 := z2.grown z4 z2.size (fun b hb => Nat.le_trans hB1 (y2.lt b hb).1)
                          refine ⟨(y4.setLit _ (some (bs ++ [vv]))).setLast ((bs.length : Int) + 1), Below.setCell (p := ⟨g1, _, none⟩) (Below.setCell (p := ⟨g1, _, none⟩) y6 hbg _) hbg _, ?_, ?_⟩
                          · exact St.byted (l := ⟨0, 0, .slice none 0 0, none⟩) HNQ.out (by omega) (fun q hq => (HLQ.out q hq).keep fun b hb _ => by rw [z1]; exact Below.heap_alloc _ _ _ hb) hB1 (by rw [z1]; simp; omega) y2 (by omega) HBY.out hvv y1.2 z4 rfl z3 s2
                          · rw [s2.block _ (Array.getElem?_eq_some_iff.1 y5).1 (by have h9 := HXNW.out; simpa [Value.ownBlock] using h9)]
                            exact y5
                        have HKP : Hid (∀ W1 w6 : World, W1.grownBy w6 (Value.slice (some ⟨lg, 0, none⟩) bs.length lc).ownBlock → W1.heap = (w5.alloc (Obj.cells #[.int .u8 vv] 5)).heap → w6.cell? ⟨g1, ws'.length * 3 + 1, none⟩ = some (.int .i64 bs.length) ∧ w6.cell? ⟨g1, ws'.length * 3 + 2, none⟩ = some (.slice (some ⟨lg, 0, none⟩) bs.length lc) ∧ (∀ y, w6.frozen? ⟨g1, y, none⟩ = false)) := by
                          intro W1 w6 z4 z1
                          have y1 : W1.ownsRow wb.heap.size 40 3 (.slice (some ⟨g1, 0, none⟩) (ws'.length + 1) cp) (ws'.length + 1) _ := owns_heap (HOW.out.2.alloc _) z1
                          have y2 : W1.ownsRow base 5 1 (.slice (some ⟨lg, 0, none⟩) bs.length lc) bs.length (bs.map (Value.int .u8)) := owns_heap (HRW.out.alloc _) z1
                          have y4 : OwnP 40 w6 wb.heap.size (.slice (some ⟨g1, 0, none⟩) (ws'.length + 1) cp) (ws'.length + 1) (ws' ++ [⟨0, (bs.length : Int), .slice (some ⟨lg, 0, none⟩) bs.length lc, some bs⟩]) := ⟨HOW.out.1, owns_kept y2 y1 (by decide) z4⟩
                          obtain ⟨gb', cp', hv', -, -, -, -, -, k0, k1, k2, k3⟩ := y4.lastCells
                          simp only [Value.slice.injEq, Option.some.injEq, Addr.mk.injEq, true_and, and_true] at hv'
                          obtain ⟨rfl, rfl⟩ := hv'
                          exact ⟨k1, k2, k3⟩
                        have hii : (ws'.length : Int) < (ws'.length : Int) + 1 := by omega
                        go_wp2_with fail
                        refine byte_region _ (by as_aux_lemma => kernel_rfl) _ _ g1 ws'.length cp wr.heap.size lg lc base vv bs w5 wb _ _ _ _ _ _ _ _ _ _ _ _ _ _ _ _ _ _ _ _ _ _ _ _ _ _ _ _ _ _ _ _ _ _ _ _ _ _ _ _ _ _ _ _ _ _ _ _ _ _ _ _ _ _ _ _ _ _ _ _ _ _ _ _ _ _ _ _ _ _ _ _ _ _ _ _ _ _ _ _ _ _ _ _ _ _ _ _ _ _ _ _ _ _ _ _ _ _ _ _ _ _ _ _ _ _ _ _ _ _ _ _ _ _ _ _ _ _ _ _ _ _ _ _ _ _ _ _ _ _ _ _ _ _ _ _ _ _ _ _ _ _ _ _ _ _ _ _ _ _ _ _ _ _ _ _ _ _ _ _ _ _ _ _ _ _ _ _ _ _ _ _ _ _ _ _ _ _ _ _ _ _ _ _ _ _ _ _ _ _ _ _ _ _ _ _ _ _ _ _ _ _ _ _ _ _ _ _ _ _ _ _ _ _ _ _ _ _ _ _ _ _ _ _ _ (by simpa using m1) hvv.1 hvv.2 (by omega) cc2 HRW.out hB2W hBB4 (fun W1 w6 z4 z1 => (HKP.out W1 w6 z4 z1).2) ?_
                        intro W1 w6 g6 c6 x203 x204 x205 x206 x207 x208 x209 x210 x211 x212 x213 x214 x215 x216 hg6 hz1 hz2 hr6
                        obtain ⟨y1, y2, y3⟩ := HKP.out W1 w6 hg6 hz1
                        have HC6 : Hid _ := HCL.out W1 w6 g6 c6 hg6 hz1 hz2 hr6
                        clear hr6 hg6 hz1 hz2
                        go_wp2_with fail
                        go_roundw
                        case rel =>
                          refine ⟨t + 1, ws'.length + 1, _, _, _, ((k : Int) * ((fs.length : Int) + 1) + src + 1), by omega, by omega, by go_num, rfl, fun h => by omega, rfl, HC6.out.1, HC6.out.2.1, ?_, by omega, HC6.out.2.2.1, HC6.out.2.2.2, HXNW.out⟩
                          rw [HFN.out, HTF.out, List.map_append]
                          rfl
                        case measure => simp [intOf]; omega
                      · as_aux_lemma =>
                        obtain rfl : kd = 2 := by omega
                        go_wp2_with fail
                        go_roundw
                        case rel =>
                          refine ⟨t + 1, n' + 1, _, _, _, (k : Int) * ((fs.length : Int) + 1) + src + 1, by omega, by omega, by go_num, rfl, fun h => by omega, rfl, HO5.out, HB5.out, ?_, by omega, HS5.out, HX5.out.1, ?_⟩
                          · rw [HFN.out, tokStep_mark_new _ _ _ _ _ _ HGG.out, List.map_append]
                            rfl
                          · simp only [Value.ownBlock]
                            intro hh
                            exact HX5.out.2 (by simpa using hh)
                        case measure => simp [intOf]; omega
                · as_aux_lemma =>
                  have hte : t = P1 + 1 := by omega
                  subst hte
                  obtain ⟨gf, hf1, hf2⟩ := HFF.out
                  have hfe := HF4.out
                  rw [hf1] at hfe
                  simp only [Prod.mk.injEq] at hfe
                  obtain ⟨hfe1, rfl⟩ := hfe
                  have HFE : Hid (ws'.map Pc.dat = rebD ((ps.take (k + 1)).map Pc.dat) (fs.map Pc.dat)) := hfe1
                  have HGE : Hid (g' < (k : Int) * ((fs.length : Int) + 1) + fs.length + 1) := hf2
                  clear hf1 hf2 hfe1
                  go_wp2_with fail
                  go_roundw
                  case rel =>
                    refine ⟨k + 1, n', ws', _, _, g', hlt, by go_num, rfl, HN4.out, rfl, HO4.out, hbel4, HFE.out, hg', ?_, HS4.out.mono (by omega)⟩
                    have h9 := HMU.out
                    have h8 := HGE.out
                    omega
                  case measure => simp [intOf]; omega
            · as_aux_lemma =>
              have hz0 : pn = 0 := by omega
              subst hz0
              have HSA : Hid (∀ o, St (wr.alloc o) wb.heap.size ws g ((k + 1) * 70000)) := fun o => (HST.out.alloc o).mono (by omega)
              have HOA : Hid (∀ o, OwnP 40 (wr.alloc o) wb.heap.size (.slice x n c) n ws) := fun o => HO.out.alloc o
              have HBA : Hid (∀ o, Below wb.heap.size wb (wr.alloc o)) := fun o => hbel.alloc hbel.size o
              go_wp2_with fail
              go_roundw
              case rel =>
                refine ⟨k + 1, n, ws, x, c, g, hlt, by go_num, rfl, HNIL.out, rfl, HOA.out _, HBA.out _, ?_, hg1, ?_, HSA.out _⟩
                · rw [HSD.out]
                  rfl
                · have h9 := HMU.out
                  have h8 := HG2.out
                  omega
              case measure => simp [intOf]; omega
        · as_aux_lemma =>
          go_wp2_with fail
          go_ret
          have hkeq : k = ps.length := by omega
          subst hkeq
          have h9 := HD.out
          rw [List.take_of_length_le (Nat.le_refl _)] at h9
          exact ⟨_, _, _, rfl, OwnP.mono HO.out HB.out.size, h9, fun q hq => (HST.out.lits q hq).1, hbw⟩
end Go.Proofs.Qxb6617398a
