/-
  The walk of rebase.
-/
import Derived.Test.Qxb6617398aRebaseMap
import Derived.Test.Qxb6617398aSearch
import Derived.Deep.DeepCutAuto
import Derived.BigRegion
namespace Go.Proofs.Qxb6617398a
open Go.RowKit

theorem info3 : (Try.prog.info? 3).map (fun i => (i.zero, i.size, i.bytes)) = some (some (.int .i64 0), 1, 8) := by kernel_rfl

/-- A row of numbers just made holds zeros. -/
theorem Part.of_made {w : World} {base g : Nat} {e : TypeId} {n : Nat} {f : List Int} (h : w.ownsRow base e 1 (.slice (some ⟨g, 0, none⟩) n n) n (madeCells #[Value.int .i64 0] n).toList) (hn : 0 < n) (hf : f.getD 0 0 = 0) : Part .i64 w g e n f 1 := by
  rcases h.2 with ⟨h0, _⟩ | ⟨g', cap, cur, hv, hb, hg, hn', hm, hcs, htk⟩
  · cases h0
  simp only [Value.slice.injEq, Option.some.injEq, Addr.mk.injEq, true_and, and_true] at hv
  obtain ⟨rfl, rfl⟩ := hv
  refine ⟨cur, hg, by simpa using hcs, fun j hj => ?_⟩
  have hj0 : j = 0 := by omega
  subst hj0
  rw [hf]
  have h3 : (madeCells #[Value.int .i64 0] n).toList[0]? = some (.int .i64 0) := by
    simp [madeCells, hn]
  rw [← htk, List.getElem?_take, if_pos (by omega)] at h3
  simpa using h3

theorem Part.alloc {k : IntKind} {w : World} {g : Nat} {e : TypeId} {n : Nat} {f : List Int} {i : Nat} (h : Part k w g e n f i) (hg : g < w.heap.size) (o : Obj) : Part k (w.alloc o) g e n f i := by
  obtain ⟨cur, h1, h2, h3⟩ := h
  exact ⟨cur, by rw [Below.heap_alloc _ _ _ hg]; exact h1, h2, h3⟩

theorem OwnP.mono {e : TypeId} {w : World} {base base' : Nat} {v : Value} {n : Nat} {ps : List Pc} (h : OwnP e w base v n ps) (hb : base' ≤ base) : OwnP e w base' v n ps := by
  obtain ⟨h1, h2, h3⟩ := h
  refine ⟨h1, h2, ?_⟩
  rcases h3 with h3 | ⟨g, cap, cur, r1, r2, r3⟩
  · exact .inl h3
  · exact .inr ⟨g, cap, cur, r1, Nat.le_trans hb r2, r3⟩

/-- lit[lo:hi], the capacity used up. -/
theorem slice_lit0 {w : World} {ad : Addr} {bs : List Int} {lo hi : Nat} (h1 : hi ≤ lo) (h2 : lo ≤ hi) : IsLit w (.slice (some ad) (hi - lo) 0) (some (sub bs lo hi)) := by
  have he : hi = lo := by omega
  subst he
  have hs : sub bs hi hi = [] := by simp [sub]
  rw [hs, Nat.sub_self]
  exact ⟨⟨_, _, rfl, Nat.le_refl _, Nat.zero_le _, fun j hj => absurd hj (by simp)⟩, ⟨_, _, rfl⟩, fun b hb => by simp at hb⟩

/-- lit[lo:hi]. -/
theorem slice_lit1 {w : World} {ad : Addr} {n c : Nat} {bs : List Int} {lo hi : Nat} (h : IsLit w (.slice (some ad) n c) (some bs)) (h1 : lo ≤ hi) (h2 : hi ≤ bs.length) : IsLit w (.slice (some (ad.add lo)) (hi - lo) (c - lo)) (some (sub bs lo hi)) := by
  have hl := sub_length bs lo hi h2
  obtain ⟨hi1, _, hby⟩ := h
  obtain ⟨a', c', g1, g2, g3, g4⟩ := hi1
  simp only [Value.slice.injEq] at g1
  obtain ⟨rfl, rfl, rfl⟩ := g1
  refine ⟨⟨some (ad.add lo), c - lo, by rw [hl], by omega, by omega, fun j hj => ?_⟩, ⟨_, _, by rw [hl]⟩, fun b hb => ?_⟩
  · rw [hl] at hj
    obtain ⟨b, off, r1, r2⟩ := g4 (lo + j) (by omega)
    simp only [Option.some.injEq] at r1
    subst r1
    refine ⟨b, off + lo, by simp [Addr.add], ?_⟩
    rw [sub_getD bs lo hi j (by omega), show off + lo + j = off + (lo + j) by omega]
    exact r2
  · exact hby b (List.mem_of_mem_take (List.mem_of_mem_drop hb))

/-- A run of the base. -/
def segRun (off n : Int) : Pc := ⟨off, n, .slice none 0 0, none⟩

def RebPost (w : World) (R : List Dt) (e : Ending) (w' : World) : Prop :=
  ∃ v' n' out, e = .returned v' ∧ OwnP 35 w' w.heap.size v' n' out ∧ out.map Pc.dat = R ∧ Lits w out ∧ Below w.heap.size w w'

set_option maxRecDepth 100000 in
set_option maxHeartbeats 2000000 in
theorem rebase_any (ps fs : List Pc) (vp vf : Value) (w : World) (hvp : IsPcs w vp ps) (hlp : Lits w ps) (hvf : IsPcs w vf fs) (hlf : Lits w fs) (hps : ∀ p ∈ ps, WFr false p)
    (hin : ∀ p ∈ ps, p.lit = none → 0 < p.n → 0 ≤ p.off ∧ p.off + p.n ≤ tot fs) (hrg : ∀ p ∈ ps, -9223372036854775808 ≤ p.off ∧ p.off ≤ 9223372036854775807) (hfs : ∀ q ∈ fs, WFr true q) (htot : tot fs ≤ 65536) (hl1 : ps.length ≤ 4096) (hl2 : fs.length ≤ 4096) :
    Calls Try.prog 33 #[vp, vf] w (RebPost w (rebD (ps.map Pc.dat) (fs.map Pc.dat))) := by
  have HVP : Hid (IsPcs w vp ps) := hvp
  have HLP : Hid (Lits w ps) := hlp
  have HVF : Hid (IsPcs w vf fs) := hvf
  have HLF : Hid (Lits w fs) := hlf
  have HPS : Hid (∀ p ∈ ps, WFr false p) := hps
  have HIN : Hid (∀ p ∈ ps, p.lit = none → 0 < p.n → 0 ≤ p.off ∧ p.off + p.n ≤ tot fs) := hin
  have HRG : Hid (∀ p ∈ ps, -9223372036854775808 ≤ p.off ∧ p.off ≤ 9223372036854775807) := hrg
  have HFS : Hid (∀ q ∈ fs, WFr true q) := hfs
  have HNN : Hid (∀ q ∈ fs, 0 ≤ q.n) := fun q hq => (hfs q hq).1
  have HTOT : Hid (tot fs ≤ 65536) := htot
  obtain ⟨a, cap, rfl, c1, c2, -⟩ := hvp
  obtain ⟨a2, cap2, rfl, c3, c4, -⟩ := hvf
  unfold maxLen at c2 c4
  clear hlp hlf hps hin hfs hrg htot
  have hsl := starts_length fs
  have HSL : Hid ((starts fs).length = fs.length + 1) := hsl
  have HSG : Hid (∀ j, j ≤ fs.length → (starts fs).getD j 0 = startP fs j ∧ 0 ≤ startP fs j ∧ startP fs j ≤ 65536) := fun j hj => ⟨starts_getD fs j hj, (startP_le fs HNN.out j hj).1, Int.le_trans (startP_le fs HNN.out j hj).2 HTOT.out⟩
  clear hsl
  go_enter Try.func33, Try.ntmps33
  go_wp2_with (at_make; refine wpList_mk _ rfl _ _ 24 rfl Try.underlying24 info3 _ (fs.length + 1) rfl rfl (by omega) (by omega) (by decide) ?_)
  intro w1 hown1 hb1
  have HP0 : Hid (Part .i64 w1 w.heap.size 3 (fs.length + 1) (starts fs) 1) := Part.of_made hown1 (by omega) (by rw [starts_getD fs 0 (by omega), startP_zero])
  have HB1 : Hid (Below w.heap.size w w1) := hb1
  clear hown1 hb1
  go_wp2_with fail
  go_loopw [24] (fun i wr => ∃ k : Nat, k ≤ fs.length ∧ i = .int .i64 k ∧ Part .i64 wr w.heap.size 3 (fs.length + 1) (starts fs) (k + 1) ∧ Below w.heap.size w wr) (fun i _ => fs.length - (intOf i).toNat)
  case atStart => exact ⟨0, Nat.zero_le _, rfl, HP0.out, HB1.out⟩
  case round =>
    obtain ⟨k, hk, rfl, hpart, hbel⟩ := hrel
    have HP : Hid (Part .i64 wr w.heap.size 3 (fs.length + 1) (starts fs) (k + 1)) := hpart
    clear hpart
    by_cases hlt : k < fs.length
    · obtain ⟨b, off, rfl, hc0, hc1, hc2⟩ := HVF.out.cell hlt
      have hblt : b < w.heap.size := World.block_lt_of_cell? _ _ hc0
      obtain ⟨pa, pc, hlv, -⟩ := IsLit.shape (HLF.out _ (getD_memP fs k hlt))
      have hnk := HFS.out _ (getD_memP fs k hlt)
      have hn0 := hnk.1
      have hn1 := hnk.2.1
      obtain ⟨hs1, hs2, hs3⟩ := HSG.out k (by omega)
      have hs4 := startP_succ fs k hlt
      obtain ⟨hs5, hs6, hs7⟩ := HSG.out (k + 1) (by omega)
      rw [hlv] at hc2
      have e0 : wr.cell? ⟨b, off + k * 3, none⟩ = some (.int .i64 (fs.getD k Pc.nil).off) := by rw [hbel.cell (p := ⟨b, _, none⟩) hblt]; exact hc0
      have e1 : wr.cell? ⟨b, off + k * 3 + 1, none⟩ = some (.int .i64 (fs.getD k Pc.nil).n) := by rw [hbel.cell (p := ⟨b, _, none⟩) hblt]; exact hc1
      have e2 : wr.cell? ⟨b, off + k * 3 + 2, none⟩ = some (.slice pa ((fs.getD k Pc.nil).lit.getD []).length pc) := by rw [hbel.cell (p := ⟨b, _, none⟩) hblt]; exact hc2
      clear hc0 hc1 hc2 hlv hnk
      have HS4 : Hid (startP fs (k + 1) = startP fs k + (fs.getD k Pc.nil).n) := hs4
      have HS5 : Hid ((starts fs).getD (k + 1) 0 = startP fs (k + 1)) := hs5
      have hs8 : startP fs k + (fs.getD k Pc.nil).n ≤ 65536 := by omega
      clear hs4 hs5 hs6 hs7
      generalize ((fs.getD k Pc.nil).lit.getD []).length = len at *
      generalize (fs.getD k Pc.nil).off = poff at *
      generalize (fs.getD k Pc.nil).n = pn at *
      have f1 : wr.cell? ⟨w.heap.size, k, none⟩ = some (.int .i64 (startP fs k)) := by
        obtain ⟨cur, hg, hsz, hf⟩ := HP.out
        rw [cell_of_row wr w.heap.size k cur 3 (0, 0) hg, hf k (by omega), hs1]
      obtain ⟨⟨u1, f2⟩, f3⟩ := HP.out.cell (j := k + 1) (by omega)
      clear hs1
      generalize startP fs k = sk at *
      have hwlt : w.heap.size < wr.heap.size := by
        obtain ⟨cur, hg, hsz, hf⟩ := HP.out
        exact (Array.getElem?_eq_some_iff.1 hg).1
      have f1' : ∀ o, (wr.alloc o).cell? ⟨w.heap.size, k, none⟩ = some (.int .i64 sk) := fun o => by rw [World.cell?_alloc_lt _ _ _ (by exact hwlt)]; exact f1
      have f2' : ∀ o, (wr.alloc o).cell? ⟨w.heap.size, k + 1, none⟩ = some u1 := fun o => by rw [World.cell?_alloc_lt _ _ _ (by exact hwlt)]; exact f2
      have f3' : ∀ o, (wr.alloc o).frozen? ⟨w.heap.size, k + 1, none⟩ = false := fun o => by rw [World.frozen?_alloc_old _ _ _ (by simp; omega)]; exact f3
      have HQ : Hid (∀ o, Part .i64 ((wr.setCell ⟨w.heap.size, k + 1, none⟩ (.int .i64 (sk + pn))).alloc o).drew w.heap.size 3 (fs.length + 1) (starts fs) (k + 1 + 1)) := fun o => by
        have h7 := HP.out.set (by omega)
        rw [HS5.out, HS4.out] at h7
        exact h7.alloc (by simpa using hwlt) o
      have HBQ : Hid (∀ o, Below w.heap.size w ((wr.setCell ⟨w.heap.size, k + 1, none⟩ (.int .i64 (sk + pn))).alloc o).drew) := fun o => ((Below.setCell (p := ⟨w.heap.size, k + 1, none⟩) hbel (Nat.le_refl _) _).alloc (by simpa using hbel.size) o).drew
      go_wp2_with fail
      go_region
      go_wp2_with fail
      go_roundw
      case rel => exact ⟨k + 1, hlt, by go_num, HQ.out _, HBQ.out _⟩
      case measure => simp [intOf]; omega
    · have hkeq : k = fs.length := by omega
      subst hkeq
      have HST : Hid (IsInts .i64 wr (.slice (some ⟨w.heap.size, 0, none⟩) (fs.length + 1) (fs.length + 1)) (starts fs)) := by
        have h7 := HP.out
        have h8 := HSL.out
        have h9 : Part .i64 wr w.heap.size 3 (starts fs).length (starts fs) (starts fs).length := by rw [h8]; exact h7
        have h10 := h9.ints (by rw [h8]; unfold maxLen; omega)
        rw [h8] at h10
        exact h10
      have HB : Hid (Below w.heap.size w wr) := hbel
      clear hbel HP hlt HP0 HB1
      obtain ⟨wb, hwb⟩ : ∃ wb, wb = wr := ⟨_, rfl⟩
      subst hwb
      go_wp2_with (at_make; refine wpList_mk0 _ rfl _ _ 31 rfl Try.underlying31 info35 _ (ps.length + fs.length) rfl rfl (by omega) (by omega) (by decide) ?_)
      intro w2 hown2 hb2
      have HO2 : Hid (OwnP 35 w2 wb.heap.size (.slice (some ⟨wb.heap.size, 0, none⟩) 0 (ps.length + fs.length)) 0 []) := ⟨rfl, hown2⟩
      have HB2 : Hid (Below wb.heap.size wb w2) := hb2
      clear hown2 hb2
      go_wp2_with fail
      go_loopw [8, 49] (fun o i w3 => ∃ (k n : Nat) (out : List Pc), k ≤ ps.length ∧ i = .int .i64 k ∧ OwnP 35 w3 wb.heap.size o n out ∧ Below wb.heap.size wb w3 ∧ out.map Pc.dat = rebD ((ps.take k).map Pc.dat) (fs.map Pc.dat) ∧ (∀ q ∈ out, Good2 w q) ∧ out.length ≤ k * 4096) (fun _ i _ => ps.length - (intOf i).toNat)
      case atStart => exact ⟨0, 0, [], Nat.zero_le _, rfl, HO2.out, HB2.out, rfl, fun q hq => by simp at hq, Nat.zero_le _⟩
      case round =>
        obtain ⟨k, n, out, hk, rfl, hown, hbel, hdat, hgood, hlen⟩ := hrel
        have HO : Hid (OwnP 35 wr wb.heap.size u8 n out) := hown
        have HD : Hid (out.map Pc.dat = rebD ((ps.take k).map Pc.dat) (fs.map Pc.dat)) := hdat
        have HG : Hid (∀ q ∈ out, Good2 w q) := hgood
        have HLN : Hid (out.length ≤ k * 4096) := hlen
        have hn : n ≤ k * 4096 := by rw [← hown.1]; exact hlen
        clear hown hdat hgood hlen
        have hbw : Below w.heap.size w wr := HB.out.trans (hbel.mono HB.out.size)
        by_cases hlt : k < ps.length
        · obtain ⟨b, off, rfl, hc0, hc1, hc2⟩ := HVP.out.cell hlt
          have hblt : b < w.heap.size := World.block_lt_of_cell? _ _ hc0
          have hlp := HLP.out _ (getD_memP ps k hlt)
          obtain ⟨pa, pc, hlv, hpn, -⟩ := IsLit.shape hlp
          have HLp : Hid (IsLit w (.slice pa ((ps.getD k Pc.nil).lit.getD []).length pc) (ps.getD k Pc.nil).lit) := by rw [hlv] at hlp; exact hlp
          have hnk := HPS.out _ (getD_memP ps k hlt)
          have HNK : Hid (WFr false (ps.getD k Pc.nil)) := hnk
          have HIk : Hid ((ps.getD k Pc.nil).lit = none → 0 < (ps.getD k Pc.nil).n → 0 ≤ (ps.getD k Pc.nil).off ∧ (ps.getD k Pc.nil).off + (ps.getD k Pc.nil).n ≤ tot fs) := HIN.out _ (getD_memP ps k hlt)
          have hr := HRG.out _ (getD_memP ps k hlt)
          have hn0 := hnk.1
          have hn1 := hnk.2.1
          have HSD : Hid (rebD ((ps.take (k + 1)).map Pc.dat) (fs.map Pc.dat) = stepD (fs.map Pc.dat) (out.map Pc.dat) (ps.getD k Pc.nil).dat) := by
            have h9 := HD.out
            rw [h9, take_snocP ps k hlt, List.map_append, rebD, List.foldl_append]
            rfl
          have HGK : Hid ((ps.getD k Pc.nil).lit ≠ none → Good2 w (ps.getD k Pc.nil)) := fun h => ⟨hn0, by omega, fun h2 => absurd h2 h, hlp⟩
          rw [hlv] at hc2
          have e0 : wr.cell? ⟨b, off + k * 3, none⟩ = some (.int .i64 (ps.getD k Pc.nil).off) := by rw [hbw.cell (p := ⟨b, _, none⟩) hblt]; exact hc0
          have e1 : wr.cell? ⟨b, off + k * 3 + 1, none⟩ = some (.int .i64 (ps.getD k Pc.nil).n) := by rw [hbw.cell (p := ⟨b, _, none⟩) hblt]; exact hc1
          have e2 : wr.cell? ⟨b, off + k * 3 + 2, none⟩ = some (.slice pa ((ps.getD k Pc.nil).lit.getD []).length pc) := by rw [hbw.cell (p := ⟨b, _, none⟩) hblt]; exact hc2
          clear hc0 hc1 hc2 hnk hlp
          have hne := fun (w : World) a n c => run_neq_slice_nil_any (P := Try.prog) w 22 5 a n c 0 0 Try.underlying22
          generalize ps.getD k Pc.nil = pk at *
          obtain ⟨poff, pn, plv, plit⟩ := pk
          simp only at hlv hpn hr hn0 hn1 e0 e1 e2
          subst hlv
          cases plit with
          | some bs =>
            simp only [Option.isNone_some] at hpn
            generalize hlenq : ((some bs).getD ([] : List Int)).length = len at *
            clear hlenq
            have HO2 : OwnP 35 (wr.alloc (Obj.cells #[.int .i64 poff, .int .i64 pn, .slice pa len pc] 35)) wb.heap.size u8 n out := HO.out.alloc _
            have hsz := hbel.size
            go_wp2_with (at_builtin; refine wpList_appPB _ rfl _ _ 31 rfl Try.underlying31 info35 rfl rfl HO2 ⟨poff, pn, .slice pa len pc, some bs⟩ 35 rfl (by simp) rfl (by omega) (by decide) (by simp; omega) ?_)
            intro g1 cp w1 hown1 hb1 _
            have HO3 : Hid (OwnP 35 w1 wb.heap.size (.slice (some ⟨g1, 0, none⟩) (n + 1) cp) (n + 1) (out ++ [⟨poff, pn, .slice pa len pc, some bs⟩])) := hown1
            have HB3 : Hid (Below wb.heap.size wb w1) := (hbel.alloc hbel.size _).trans hb1
            clear hown1 hb1 HO2
            go_wp2_with fail
            go_roundw
            case rel =>
              refine ⟨k + 1, n + 1, _, hlt, by go_num, HO3.out, HB3.out, ?_, good_snoc HG.out (HGK.out (by simp)), ?_⟩
              · rw [HSD.out, List.map_append]
                rfl
              · have h9 := HLN.out
                simp
                omega
            case measure => simp [intOf]; omega
          | none =>
            simp only [Option.isNone_none] at hpn
            have HSS : Hid (∀ i j, i ≤ j → j < (starts fs).length → (starts fs).getD i 0 ≤ (starts fs).getD j 0) := fun i j h1 h2 => by
              have h8 := HSL.out
              rw [starts_getD fs i (by omega), starts_getD fs j (by omega)]
              exact startP_mono fs HNN.out i j h1 (by omega)
            have HSE : Hid (∀ T w3, Below wb.heap.size wb w3 → Calls Try.prog 34 #[.slice (some ⟨w.heap.size, 0, none⟩) (fs.length + 1) (fs.length + 1), .int .i64 T] w3 (SearchPost w3 (starts fs) T)) := fun T w3 h => search_any (starts fs) _ T w3 (by have h8 := HST.out.below h; exact h8) HSS.out (by have h8 := HSL.out; omega)
            clear HSS
            generalize hlenq : ((none : Option (List Int)).getD ([] : List Int)).length = len at *
            clear hlenq
            have HIz : Hid (0 < pn → 0 ≤ poff ∧ poff + pn ≤ tot fs) := HIk.out rfl
            clear HIk
            have hsum : poff + pn ≤ 9223372036854775807 := by
              have h8 := HTOT.out
              by_cases hz : 0 < pn
              · have h9 := HIz.out hz
                omega
              · omega
            go_wp2_with fail
            refine (HSE.out (wrap64 (poff + 1)) _ (hbel.alloc hbel.size _)).mono ?_
            rintro _ _ ⟨i, f, rfl, rfl, hi1, hi2, hi3⟩
            have HI : Hid (0 < pn → 1 ≤ i ∧ i ≤ fs.length ∧ startP fs (i - 1) ≤ poff ∧ poff < startP fs i ∧ poff + pn ≤ 65536) := by
              intro hz
              have h9 := HIz.out hz
              have h8 := HTOT.out
              have hw : wrap64 (poff + 1) = poff + 1 := by unfold wrap64; omega
              rw [hw] at hi2 hi3
              have hsl := HSL.out
              have z0 : 1 ≤ i := by
                by_cases hi0 : 1 ≤ i
                · exact hi0
                · have h7 := hi3 0 (by omega) (by omega)
                  rw [starts_getD fs 0 (by omega), startP_zero] at h7
                  omega
              have z1 : i ≤ fs.length := by
                by_cases hi0 : i ≤ fs.length
                · exact hi0
                · have h7 := hi2 fs.length (by omega)
                  rw [starts_getD fs fs.length (by omega), startP_end] at h7
                  omega
              have z2 := hi2 (i - 1) (by omega)
              have z3 := hi3 i (by omega) (by omega)
              rw [starts_getD fs _ (by omega)] at z2 z3
              exact ⟨z0, z1, by omega, by omega, by omega⟩
            have hi4 : i ≤ fs.length + 1 := by have h8 := HSL.out; omega
            clear hi1 hi2 hi3
            go_wp2_with fail
            go_quiet (fail)
            have HR : Hid (stepD (fs.map Pc.dat) (out.map Pc.dat) (⟨poff, pn, .slice pa len pc, none⟩ : Pc).dat = runD ((fs.drop (i - 1)).map Pc.dat) (poff - startP fs (i - 1)).toNat (poff + pn - startP fs (i - 1)).toNat (out.map Pc.dat)) := by
              show (if 0 < pn then runFrom (fs.map Pc.dat) poff.toNat pn.toNat (out.map Pc.dat) else out.map Pc.dat) = _
              by_cases hz : 0 < pn
              · obtain ⟨z0, z1, z2, z3, z4⟩ := HI.out hz
                rw [if_pos hz]
                exact runFrom_at fs HNN.out (i - 1) (by omega) poff pn _ z2 (by rw [show i - 1 + 1 = i by omega]; exact z3) hn0
              · rw [if_neg hz, runD_done _ _ _ _ (by omega)]
            generalize hR : stepD (fs.map Pc.dat) (out.map Pc.dat) (⟨poff, pn, .slice pa len pc, none⟩ : Pc).dat = R at *
            clear hR
            have HOA : Hid (∀ o nq, OwnP 35 ((wr.alloc o).drewN nq) wb.heap.size u8 n out) := fun o nq => (HO.out.alloc o).drewN nq
            have HBA : Hid (∀ o nq, Below wb.heap.size wb ((wr.alloc o).drewN nq)) := fun o nq => below_drewN' (hbel.alloc hbel.size o) nq
            go_wp2_with fail
            go_loopw [8, 11, 13] (fun o iv ov w4 => ∃ (i n' : Nat) (out' : List Pc) (c : Int), iv = .int .i64 i ∧ ov = .int .i64 c ∧ OwnP 35 w4 wb.heap.size o n' out' ∧ Below wb.heap.size wb w4 ∧ (∀ q ∈ out', Good2 w q) ∧
                runD ((fs.drop (i - 1)).map Pc.dat) (c - startP fs (i - 1)).toNat (poff + pn - startP fs (i - 1)).toNat (out'.map Pc.dat) = R ∧ n' ≤ (k + 1) * 4096 ∧ c ≤ poff + pn ∧
                (c < poff + pn → poff + pn ≤ tot fs ∧ 1 ≤ i ∧ i ≤ fs.length ∧ startP fs (i - 1) ≤ c ∧ (c = startP fs (i - 1) ∨ c < startP fs i) ∧ n' + (fs.length + 1 - i) ≤ (k + 1) * 4096)) (fun _ iv _ _ => fs.length + 1 - (intOf iv).toNat)
            case atStart =>
              refine ⟨i, n, out, poff, rfl, rfl, HOA.out _ _, HBA.out _ _, HG.out, HR.out.symm, by omega, by omega, fun hz => ?_⟩
              obtain ⟨z0, z1, z2, z3, z4⟩ := HI.out (by omega)
              have h9 := HIz.out (by omega)
              exact ⟨h9.2, z0, z1, z2, .inr z3, by omega⟩
            case round =>
              obtain ⟨i', n', out', c, rfl, rfl, hown, hbel2, hgood, hR, hn2, hcE, hmore⟩ := hrel
              have HO4 : Hid (OwnP 35 wr wb.heap.size u8 n' out') := hown
              have HG4 : Hid (∀ q ∈ out', Good2 w q) := hgood
              have HR4 : Hid (runD ((fs.drop (i' - 1)).map Pc.dat) (c - startP fs (i' - 1)).toNat (poff + pn - startP fs (i' - 1)).toNat (out'.map Pc.dat) = R) := hR
              clear hown hgood hR
              by_cases hlt2 : c < poff + pn
              · obtain ⟨hE, q1, q2, q3, q4, q5⟩ := hmore hlt2
                clear hmore
                obtain ⟨j, rfl⟩ : ∃ j, i' = j + 1 := ⟨i' - 1, by omega⟩
                rw [Nat.add_sub_cancel] at q3 q4
                have HR5 : Hid (runD ((fs.drop j).map Pc.dat) (c - startP fs j).toNat (poff + pn - startP fs j).toNat (out'.map Pc.dat) = R) := HR4.out
                clear HR4
                have hjl : j < fs.length := by omega
                obtain ⟨b2, off2, rfl, hc0, hc1, hc2⟩ := HVF.out.cell hjl
                have hbw2 : Below w.heap.size w wr := HB.out.trans (hbel2.mono HB.out.size)
                have hblt2 : b2 < w.heap.size := World.block_lt_of_cell? _ _ hc0
                have hlq := HLF.out _ (getD_memP fs j hjl)
                obtain ⟨qa, qc, hlv, hqn, hqm, -⟩ := IsLit.shape hlq
                unfold maxLen at hqm
                have HLq : Hid (IsLit w (.slice qa ((fs.getD j Pc.nil).lit.getD []).length qc) (fs.getD j Pc.nil).lit) := by rw [hlv] at hlq; exact hlq
                have hnk := HFS.out _ (getD_memP fs j hjl)
                have HWq : Hid (WFr true (fs.getD j Pc.nil)) := hnk
                have g0 := hnk.1
                have g1 := hnk.2.1
                have hs4 := startP_succ fs j hjl
                obtain ⟨hs1, hs2, hs3⟩ := HSG.out j (by omega)
                obtain ⟨hs5, hs6, hs7⟩ := HSG.out (j + 1) (by omega)
                have hss : wb.cell? ⟨w.heap.size, j, none⟩ = some (.int .i64 (startP fs j)) ∧ wb.cell? ⟨w.heap.size, j + 1, none⟩ = some (.int .i64 (startP fs (j + 1))) := by
                  have hsl := HSL.out
                  obtain ⟨x1, x2, x3, x4⟩ := HST.out.cell (j := j) (by omega)
                  obtain ⟨y1, y2, y3, y4⟩ := HST.out.cell (j := j + 1) (by omega)
                  simp only [Option.some.injEq, Addr.mk.injEq, and_true] at x3 y3
                  obtain ⟨rfl, rfl⟩ := x3
                  obtain ⟨rfl, rfl⟩ := y3
                  rw [Nat.zero_add, hs1] at x4
                  rw [Nat.zero_add, hs5] at y4
                  exact ⟨x4, y4⟩
                obtain ⟨hs8, hs9⟩ := hss
                have hwlt : w.heap.size < wb.heap.size := World.block_lt_of_cell? _ _ hs8
                have hwlt2 : w.heap.size < wr.heap.size := Nat.lt_of_lt_of_le hwlt hbel2.size
                rw [hlv] at hc2
                have e0 : wr.cell? ⟨b2, off2 + j * 3, none⟩ = some (.int .i64 (fs.getD j Pc.nil).off) := by rw [hbw2.cell (p := ⟨b2, _, none⟩) hblt2]; exact hc0
                have e1 : wr.cell? ⟨b2, off2 + j * 3 + 1, none⟩ = some (.int .i64 (fs.getD j Pc.nil).n) := by rw [hbw2.cell (p := ⟨b2, _, none⟩) hblt2]; exact hc1
                have e2 : wr.cell? ⟨b2, off2 + j * 3 + 2, none⟩ = some (.slice qa ((fs.getD j Pc.nil).lit.getD []).length qc) := by rw [hbw2.cell (p := ⟨b2, _, none⟩) hblt2]; exact hc2
                have t1 : wr.cell? ⟨w.heap.size, j, none⟩ = some (.int .i64 (startP fs j)) := by rw [hbel2.cell (p := ⟨w.heap.size, _, none⟩) hwlt]; exact hs8
                have t2 : wr.cell? ⟨w.heap.size, j + 1, none⟩ = some (.int .i64 (startP fs (j + 1))) := by rw [hbel2.cell (p := ⟨w.heap.size, _, none⟩) hwlt]; exact hs9
                have t1' : ∀ o, (wr.alloc o).cell? ⟨w.heap.size, j, none⟩ = some (.int .i64 (startP fs j)) := fun o => by rw [World.cell?_alloc_lt _ _ _ (by exact hwlt2)]; exact t1
                have t2' : ∀ o, (wr.alloc o).cell? ⟨w.heap.size, j + 1, none⟩ = some (.int .i64 (startP fs (j + 1))) := fun o => by rw [World.cell?_alloc_lt _ _ _ (by exact hwlt2)]; exact t2
                have HRD : Hid (runD ((fs.drop (j + 1)).map Pc.dat) (min (poff + pn) (startP fs (j + 1)) - startP fs (j + 1)).toNat (poff + pn - startP fs (j + 1)).toNat (segD (fs.getD j Pc.nil).dat (c - startP fs j).toNat (min (poff + pn) (startP fs (j + 1)) - startP fs j).toNat (out'.map Pc.dat)) = R) := by
                  rw [← runD_round fs HNN.out j hjl c (poff + pn) (out'.map Pc.dat) q3 hlt2]
                  exact HR5.out
                clear hc0 hc1 hc2 hs1 hs5 hs9 hlq hnk
                generalize hsj : startP fs j = sj at *
                generalize hsj1 : startP fs (j + 1) = sj1 at *
                have HSJ1 : Hid (startP fs (j + 1) = sj1) := hsj1
                clear hsj hsj1
                generalize fs.getD j Pc.nil = qk at *
                obtain ⟨qoff, qn, qlv, qlit⟩ := qk
                simp only at hlv hqn g0 g1 hs4 e0 e1 e2
                subst hlv
                have hcast : ((j + 1 : Nat) : Int) = (j : Int) + 1 := by omega
                rw [hcast]
                have HS4 : Hid (sj1 = sj + qn) := hs4
                clear hs4 hcast
                go_wp2_with fail
                go_quiet (fail)
                have hM : (if sj1 < poff + pn then sj1 else poff + pn) = min (poff + pn) sj1 := by split <;> omega
                rw [hM]
                clear hM
                have HS1 : Hid (∀ w5, Below wb.heap.size wb w5 → w5.cell? ⟨w.heap.size, j, none⟩ = some (.int .i64 sj)) := fun w5 h => by rw [h.cell (p := ⟨w.heap.size, _, none⟩) hwlt]; exact hs8
                have hm1 : min (poff + pn) sj1 ≤ poff + pn := Int.min_le_left _ _
                have hm2 : min (poff + pn) sj1 ≤ sj1 := Int.min_le_right _ _
                have hm3 : c ≤ min (poff + pn) sj1 := by have h9 := HS4.out; omega
                have HMN : Hid (min (poff + pn) sj1 < poff + pn → min (poff + pn) sj1 = sj1) := by show _ → _; omega
                generalize min (poff + pn) sj1 = M at *
                obtain ⟨lo, hlo⟩ := Int.eq_ofNat_of_zero_le (a := c - sj) (by omega)
                obtain ⟨hi, hhi⟩ := Int.eq_ofNat_of_zero_le (a := M - sj) (by omega)
                rw [hlo, hhi]
                rw [hlo, hhi] at HRD
                have hlh : lo ≤ hi := by omega
                have hhq : (hi : Int) ≤ qn := by have h9 := HS4.out; omega
                have hh2 : hi ≤ 65536 := by omega
                have HMV : Hid (sj + (hi : Int) = M) := by show _ = _; omega
                rw [Int.toNat_natCast, Int.toNat_natCast] at HRD
                clear hlo hhi
                have HEND : Hid (∀ (v5 : Value) (w5 : World) (n5 : Nat) (out5 : List Pc), OwnP 35 w5 wb.heap.size v5 n5 out5 → Below wb.heap.size wb w5 → (∀ q ∈ out5, Good2 w q) → out5.map Pc.dat = segD (⟨qoff, qn, .slice qa (qlit.getD []).length qc, qlit⟩ : Pc).dat lo hi (out'.map Pc.dat) → n5 ≤ n' + 1 →
                    ∃ (i n' : Nat) (out' : List Pc) (c : Int), Value.int .i64 ((j : Int) + 1 + 1) = .int .i64 i ∧ Value.int .i64 (sj + (hi : Int)) = .int .i64 c ∧ OwnP 35 w5 wb.heap.size v5 n' out' ∧ Below wb.heap.size wb w5 ∧ (∀ q ∈ out', Good2 w q) ∧
                runD ((fs.drop (i - 1)).map Pc.dat) (c - startP fs (i - 1)).toNat (poff + pn - startP fs (i - 1)).toNat (out'.map Pc.dat) = R ∧ n' ≤ (k + 1) * 4096 ∧ c ≤ poff + pn ∧
                (c < poff + pn → poff + pn ≤ tot fs ∧ 1 ≤ i ∧ i ≤ fs.length ∧ startP fs (i - 1) ≤ c ∧ (c = startP fs (i - 1) ∨ c < startP fs i) ∧ n' + (fs.length + 1 - i) ≤ (k + 1) * 4096)) := by
                  intro v5 w5 n5 out5 r1 r2 r3 r4 r5
                  have hj1 := HSJ1.out
                  refine ⟨j + 2, n5, out5, M, by rw [show ((j + 2 : Nat) : Int) = (j : Int) + 1 + 1 by omega], by rw [HMV.out], r1, r2, r3, ?_, by omega, hm1, fun hz => ?_⟩
                  · show runD ((fs.drop (j + 1)).map Pc.dat) (M - startP fs (j + 1)).toNat (poff + pn - startP fs (j + 1)).toNat _ = R
                    rw [hj1, r4]
                    exact HRD.out
                  · have hM1 := HMN.out hz
                    have hj2 : j + 2 ≤ fs.length := by
                      by_cases hj3 : j + 2 ≤ fs.length
                      · exact hj3
                      · have h9 := startP_end fs
                        rw [show fs.length = j + 1 by omega, hj1] at h9
                        omega
                    exact ⟨hE, by omega, hj2, by show startP fs (j + 1) ≤ M; omega, .inl (by show M = startP fs (j + 1); omega), by omega⟩
                clear HRD HMN
                cases qlit with
                | some bs =>
                  simp only [Option.isNone_some] at hqn
                  have hbl : (bs.length : Int) = qn := HWq.out.2.2.1 bs rfl
                  obtain ⟨ad, rfl⟩ : ∃ ad, qa = some ad := by
                    cases qa with
                    | none => simp at hqn
                    | some ad => exact ⟨ad, rfl⟩
                  simp only [Option.getD_some] at e2 HLq
                  have hbq : bs.length ≤ qc := by
                    obtain ⟨x1, x2, x3, x4, _⟩ := HLq.out.1
                    simp only [Value.slice.injEq] at x3
                    omega
                  have hhb : hi ≤ bs.length := by omega
                  by_cases hcl : qc = lo
                  · have HLS : Hid (IsLit w (.slice (some ad) (hi - lo) 0) (some (sub bs lo hi))) := slice_lit0 (by omega) (by omega)
                    subst hcl
                    have HO5 : OwnP 35 ((wr.alloc (Obj.cells #[.int .i64 qoff, .int .i64 qn, .slice (some ad) bs.length qc] 35)).drewN nq) wb.heap.size u8 n' out' := (HO4.out.alloc _).drewN nq
                    have hsz := hbel2.size
                    go_wp2_with (at_builtin; refine wpList_appPB _ rfl _ _ 31 rfl Try.underlying31 info35 rfl rfl HO5 ⟨0, (hi : Int) - qc, .slice (some ad) (hi - qc) 0, some (sub bs qc hi)⟩ 35 rfl (by simp) rfl (by omega) (by decide) (by simp; omega) ?_)
                    intro g1 cp w5 hown5 hb5 _
                    have HO6 : Hid (OwnP 35 w5 wb.heap.size (.slice (some ⟨g1, 0, none⟩) (n' + 1) cp) (n' + 1) (out' ++ [⟨0, (hi : Int) - qc, .slice (some ad) (hi - qc) 0, some (sub bs qc hi)⟩])) := hown5
                    have hb6 : Below wb.heap.size wb w5 := (below_drewN' (hbel2.alloc hbel2.size _) nq).trans hb5
                    have HB6 : Hid (Below wb.heap.size wb w5) := hb6
                    have t5 := HS1.out w5 hb6
                    have HG6 : Hid (Good2 w ⟨0, (hi : Int) - qc, .slice (some ad) (hi - qc) 0, some (sub bs qc hi)⟩) := ⟨by show 0 ≤ (hi : Int) - qc; omega, by show (hi : Int) - qc ≤ _; omega, fun h => by simp at h, HLS.out⟩
                    clear hown5 hb5 HO5 hb6
                    go_wp2_with fail
                    refine ⟨HEND.out _ _ _ _ HO6.out HB6.out (good_snoc HG4.out HG6.out) ?_ (Nat.le_refl _), ?_⟩
                    · rw [List.map_append]; rfl
                    · simp [intOf]; omega
                  · have HLS : Hid (IsLit w (.slice (some (ad.add lo)) (hi - lo) (qc - lo)) (some (sub bs lo hi))) := slice_lit1 HLq.out hlh hhb
                    have HO5 : OwnP 35 ((wr.alloc (Obj.cells #[.int .i64 qoff, .int .i64 qn, .slice (some ad) bs.length qc] 35)).drewN nq) wb.heap.size u8 n' out' := (HO4.out.alloc _).drewN nq
                    have hsz := hbel2.size
                    go_wp2_with (at_builtin; refine wpList_appPB _ rfl _ _ 31 rfl Try.underlying31 info35 rfl rfl HO5 ⟨0, (hi : Int) - lo, .slice (some (ad.add lo)) (hi - lo) (qc - lo), some (sub bs lo hi)⟩ 35 rfl (by simp) rfl (by omega) (by decide) (by simp; omega) ?_)
                    intro g1 cp w5 hown5 hb5 _
                    have HO6 : Hid (OwnP 35 w5 wb.heap.size (.slice (some ⟨g1, 0, none⟩) (n' + 1) cp) (n' + 1) (out' ++ [⟨0, (hi : Int) - lo, .slice (some (ad.add lo)) (hi - lo) (qc - lo), some (sub bs lo hi)⟩])) := hown5
                    have hb6 : Below wb.heap.size wb w5 := (below_drewN' (hbel2.alloc hbel2.size _) nq).trans hb5
                    have HB6 : Hid (Below wb.heap.size wb w5) := hb6
                    have t5 := HS1.out w5 hb6
                    have HG6 : Hid (Good2 w ⟨0, (hi : Int) - lo, .slice (some (ad.add lo)) (hi - lo) (qc - lo), some (sub bs lo hi)⟩) := ⟨by show 0 ≤ (hi : Int) - lo; omega, by show (hi : Int) - lo ≤ _; omega, fun h => by simp at h, HLS.out⟩
                    clear hown5 hb5 HO5 hb6
                    go_wp2_with fail
                    refine ⟨HEND.out _ _ _ _ HO6.out HB6.out (good_snoc HG4.out HG6.out) ?_ (Nat.le_refl _), ?_⟩
                    · rw [List.map_append]; rfl
                    · simp [intOf]; omega
                | none =>
                  have hv0 : Value.slice qa ((none : Option (List Int)).getD []).length qc = .slice none 0 0 := HLq.out
                  simp only [Value.slice.injEq] at hv0
                  obtain ⟨rfl, -, rfl⟩ := hv0
                  simp only [Option.getD_none, List.length_nil] at e2
                  have hq := HWq.out.2.2.2 rfl rfl
                  simp only at hq
                  have HGS : Hid (Good2 w (segRun (qoff + lo) ((hi : Int) - lo))) := ⟨by show 0 ≤ (hi : Int) - lo; omega, by show (hi : Int) - lo ≤ _; omega, fun _ => by show 0 ≤ qoff + lo ∧ qoff + lo + ((hi : Int) - lo) ≤ _; omega, rfl⟩
                  have HJ : Hid (∀ w5, OwnP 35 w5 wb.heap.size u8 n' out' → wb.heap.size ≤ w5.heap.size → Calls Try.prog 31 #[u8, .agg #[.int .i64 (qoff + lo), .int .i64 ((hi : Int) - lo), .slice none 0 0]] w5 (JoinPost w5 wb.heap.size (joinP out' (segRun (qoff + lo) ((hi : Int) - lo))))) :=
                    fun w5 h1 h2 => join_anyB out' u8 n' (segRun (qoff + lo) ((hi : Int) - lo)) w5 w wb.heap.size rfl (good_lits HG4.out) (fun q hq => (HG4.out q hq).bd) HGS.out.bd h1 (by omega) h2
                  have hbx : ∀ o, Below wb.heap.size wb ((wr.alloc o).drewN nq) := fun o => below_drewN' (hbel2.alloc hbel2.size o) nq
                  have HBX : Hid (∀ o, Below wb.heap.size wb ((wr.alloc o).drewN nq)) := hbx
                  clear hbx
                  go_wp2_with fail
                  refine (HJ.out _ ((HO4.out.alloc _).drewN nq) (HBX.out _).size).mono ?_
                  rintro _ w5 ⟨v5, n5, rfl, hown5, hb5⟩
                  have hn5 : n5 ≤ n' + 1 := by
                    rw [← hown5.1, ← HO4.out.1]
                    exact join_length out' _
                  have HO6 : Hid (OwnP 35 w5 wb.heap.size v5 n5 (joinP out' (segRun (qoff + lo) ((hi : Int) - lo)))) := hown5
                  have hb6 : Below wb.heap.size wb w5 := (HBX.out _).trans hb5
                  have HB6 : Hid (Below wb.heap.size wb w5) := hb6
                  have t5 := HS1.out w5 hb6
                  clear hown5 hb5 hb6
                  go_wp2_with fail
                  refine ⟨HEND.out _ _ _ _ HO6.out HB6.out (good_join HG4.out HGS.out) ?_ hn5, ?_⟩
                  · rw [dat_join]; rfl
                  · simp [intOf]; omega
              · go_wp2_with fail
                go_roundw
                case rel =>
                  refine ⟨k + 1, n', out', hlt, by go_num, HO4.out, hbel2, ?_, HG4.out, ?_⟩
                  · rw [HSD.out, ← HR4.out, runD_done _ _ _ _ (by omega)]
                  · rw [HO4.out.1]; exact hn2
                case measure => simp [intOf]; omega
        · go_wp2_with fail
          go_ret
          have hkeq : k = ps.length := by omega
          subst hkeq
          have h9 := HD.out
          rw [List.take_of_length_le (Nat.le_refl _)] at h9
          exact ⟨_, _, _, rfl, OwnP.mono HO.out HB.out.size, h9, good_lits HG.out, hbw⟩
end Go.Proofs.Qxb6617398a
