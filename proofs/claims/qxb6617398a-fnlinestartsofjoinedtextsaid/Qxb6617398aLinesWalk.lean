/-
  The walk of FnLineStartsOfJoinedText.
-/
import Derived.Test.Qxb6617398aLinesPlain
import Derived.Test.Qxb6617398aRowLaws
import Derived.WalkSpells
import Derived.Deep.DeepCutAuto
namespace Go.Proofs.Qxb6617398a
open Go.RowKit

/-- The call returns true and writes nothing that was there. -/
def Law (w : World) (e : Ending) (w' : World) : Prop := e = .returned (.bool true) ∧ Below w.heap.size w w'

/-- e is some bool, and the world stands. -/
def SomeBool (w : World) (e : Ending) (w' : World) : Prop := ∃ r, e = .returned (.bool r) ∧ w' = w
theorem SomeBool.mk {w : World} (r : Bool) : SomeBool w (.returned (.bool r)) w := ⟨r, rfl, rfl⟩

theorem info5 : (Try.prog.info? 5).map (fun i => (i.zero, i.size, i.bytes)) = some (some (.int .u8 0), 1, 1) := by kernel_rfl
theorem size5 : (Try.prog.info? 5).map (·.size) = some 1 := by kernel_rfl

set_option maxHeartbeats 1000000 in
theorem bytes7_any (a1 a2 : Option Addr) (n1 c1 n2 c2 : Nat) (w : World) : Calls Try.prog 7 #[.slice a1 n1 c1, .slice a2 n2 c2] w (SomeBool w) := by
  go_enter Try.func7, Try.ntmps7
  go_wp2
  all_goals (go_ret; exact SomeBool.mk _)

set_option maxRecDepth 100000 in
set_option maxHeartbeats 2000000 in
theorem lines_walk (A B : List Int) (va vb : Value) (w : World) (ha : IsInts .u8 w va A) (hb : IsInts .u8 w vb B) : Calls Try.prog 3 #[va, vb] w (Law w) := by
  have HA : Hid (IsInts .u8 w va A) := ha
  have HB : Hid (IsInts .u8 w vb B) := hb
  obtain ⟨a, cap, rfl, h1, h2, -⟩ := ha
  obtain ⟨b, cap2, rfl, h3, h4, -⟩ := hb
  unfold maxLen at h2 h4
  go_enter Try.func3, Try.ntmps3
  go_wp2_with fail
  refine (bytes7_any _ _ _ _ _ _ _).mono ?_
  rintro e w' ⟨r, rfl, rfl⟩
  cases r
  · go_wp2_with fail
    go_ret
    exact ⟨rfl, Below.refl _ _⟩
  by_cases hA : A.length ≤ 65536
  · by_cases hB : B.length ≤ 65536
    · have hne := fun a n c => run_neq_slice_nil_any (P := Try.prog) w' 22 5 a n c 0 0 Try.underlying22
      go_upto_if 29 with (fail)
      go_cut [0, 5] (fun va x wc => ∃ a' cap', va = .slice a' A.length cap' ∧ IsInts .u8 wc va A ∧ cap' ≤ 9223372036854775807 ∧ Below w'.heap.size w' wc)
      case first =>
        cases a with
        | none =>
          go_wp2_with fail
          go_meet
          case rel => exact ⟨_, _, rfl, HA.out, h2, Below.refl _ _⟩
        | some ad =>
          go_wp2_with (at_make; refine wpList_mk _ rfl _ _ 22 rfl Try.underlying22 info5 _ A.length rfl rfl rfl (by omega) (by decide) ?_)
          intro w1 hown1 hb1
          have HO : Hid _ := hown1
          have HA1 := HA.out.below hb1
          go_wp2_with (refine wpList_cp rfl _ _ 22 22 rfl Try.underlying22 size5 rfl rfl HA1 hown1 ?_)
          intro w2 hown2 hb2
          go_wp2_with fail
          go_meet
          case rel => exact ⟨_, _, rfl, ints_of_owns hown2, by omega, hb1.trans hb2⟩
      case rest =>
        obtain ⟨a', cap', rfl, hIA, hcapA, hbA⟩ := hcut
        have HA2 : Hid (IsInts .u8 wc (.slice a' A.length cap') A) := hIA
        have HB2 : Hid (IsInts .u8 wc (.slice b B.length cap2) B) := IsInts.below HB.out hbA
        have HBA : Hid (Below w'.heap.size w' wc) := hbA
        clear hIA hbA hne
        have hne := fun a n c => run_neq_slice_nil_any (P := Try.prog) wc 22 5 a n c 0 0 Try.underlying22
        obtain ⟨wo, hwo⟩ : ∃ wo, wo = wc := ⟨_, rfl⟩
        subst hwo
        go_upto_if 38 with (fail)
        go_cut [1, 6] (fun vb x wc => ∃ b' cap', vb = .slice b' B.length cap' ∧ IsInts .u8 wc vb B ∧ cap' ≤ 9223372036854775807 ∧ Below wo.heap.size wo wc)
        case first =>
          cases b with
          | none =>
            go_wp2_with fail
            go_meet
            case rel => exact ⟨_, _, rfl, HB2.out, h4, Below.refl _ _⟩
          | some ad =>
            go_wp2_with (at_make; refine wpList_mk _ rfl _ _ 22 rfl Try.underlying22 info5 _ B.length rfl rfl rfl (by omega) (by decide) ?_)
            intro w1 hown1 hb1
            have HO : Hid _ := hown1
            have HB1 := HB2.out.below hb1
            go_wp2_with (refine wpList_cp rfl _ _ 22 22 rfl Try.underlying22 size5 rfl rfl HB1 hown1 ?_)
            intro w2 hown2 hb2
            go_wp2_with fail
            go_meet
            case rel => exact ⟨_, _, rfl, ints_of_owns hown2, by omega, hb1.trans hb2⟩
        case rest =>
          obtain ⟨b', cap3, rfl, hIB, hcapB, hbB⟩ := hcut
          have HB3 : Hid (IsInts .u8 wc (.slice b' B.length cap3) B) := hIB
          have HA3 : Hid (IsInts .u8 wc (.slice a' A.length cap') A) := IsInts.below HA2.out hbB
          have HBB : Hid (Below w'.heap.size w' wc) := HBA.out.trans (hbB.mono HBA.out.size)
          clear hIB hbB hne HA2 HB2 HBA HA HB h1 h2 h3 h4
          go_wp2_with (at_make; refine wpList_mk _ rfl _ _ 22 rfl Try.underlying22 info5 _ (A.length + B.length) rfl rfl (by omega) (by omega) (by decide) ?_)
          intro w1 hown1 hb1
          have HP0 : Hid (Part .u8 w1 wc.heap.size 5 (A ++ B).length (A ++ B) 0) := by have := Part.of_owns (k := .u8) (f := A ++ B) hown1; rwa [← List.length_append] at this
          clear hown1
          have hgs : wc.heap.size < w1.heap.size := by
            obtain ⟨cur, hg, _⟩ := HP0.out
            exact (Array.getElem?_eq_some_iff.1 hg).1
          obtain ⟨wo2, hwo2⟩ : ∃ wo, wo = wc := ⟨_, rfl⟩
          subst hwo2
          go_wp2_with fail
          go_loopw [8] (fun i wr => ∃ k : Nat, k ≤ A.length ∧ i = .int .i64 k ∧ Part .u8 wr wo2.heap.size 5 (A ++ B).length (A ++ B) k ∧ Below wo2.heap.size wo2 wr) (fun i _ => A.length - (intOf i).toNat)
          case atStart => exact ⟨0, Nat.zero_le _, rfl, HP0.out, hb1⟩
          case round =>
            obtain ⟨k, hk, rfl, hpart, hbel⟩ := hrel
            have HP : Hid (Part .u8 wr wo2.heap.size 5 (A ++ B).length (A ++ B) k) := hpart
            clear hpart
            by_cases hlt : k < A.length
            · obtain ⟨ba, oa, rfl, hc⟩ := HA3.out.cell hlt
              have hc' : wr.cell? ⟨ba, oa + k, none⟩ = some (.int .u8 (A.getD k 0)) := by rw [hbel.cell (p := ⟨ba, _, none⟩) (World.block_lt_of_cell? _ _ hc)]; exact hc
              obtain ⟨⟨u, hu⟩, hf⟩ := HP.out.cell (j := k) (by simp; omega)
              have hg0 := getD_append_left A B k hlt
              generalize A.getD k 0 = c at *
              have HG : Hid ((A ++ B).getD k 0 = c) := hg0
              clear hc hg0
              go_wp2_with fail
              go_roundw
              case rel => exact ⟨k + 1, hlt, by go_num, by have h5 := HP.out.set (by simp; omega); rwa [HG.out] at h5, hbel.setCell (Nat.le_refl _) _⟩
              case measure => simp [intOf]; omega
            · have hkeq : k = A.length := by omega
              subst hkeq
              go_wp2_with fail
              obtain ⟨wo3, hwo3⟩ : ∃ wo, wo = wr := ⟨_, rfl⟩
              subst hwo3
              go_loopw [9] (fun i wr => ∃ k : Nat, k ≤ B.length ∧ i = .int .i64 k ∧ Part .u8 wr wo2.heap.size 5 (A ++ B).length (A ++ B) (A.length + k) ∧ Below wo2.heap.size wo2 wr) (fun i _ => B.length - (intOf i).toNat)
              case atStart => exact ⟨0, Nat.zero_le _, rfl, HP.out, hbel⟩
              case round =>
                obtain ⟨k, hk2, rfl, hpart, hbel2⟩ := hrel
                have HP2 : Hid (Part .u8 wr wo2.heap.size 5 (A ++ B).length (A ++ B) (A.length + k)) := hpart
                clear hpart
                by_cases hlt2 : k < B.length
                · obtain ⟨bb, ob, rfl, hc⟩ := HB3.out.cell hlt2
                  have hc' : wr.cell? ⟨bb, ob + k, none⟩ = some (.int .u8 (B.getD k 0)) := by rw [hbel2.cell (p := ⟨bb, _, none⟩) (World.block_lt_of_cell? _ _ hc)]; exact hc
                  obtain ⟨⟨u, hu⟩, hf⟩ := HP2.out.cell (j := A.length + k) (by simp; omega)
                  have hg0 := getD_append_right A B k
                  generalize B.getD k 0 = c at *
                  have HG : Hid ((A ++ B).getD (A.length + k) 0 = c) := hg0
                  clear hc hg0
                  go_wp2_with fail
                  go_roundw
                  case rel => exact ⟨k + 1, hlt2, by go_num, by have h5 := HP2.out.set (by simp; omega); rwa [HG.out] at h5, hbel2.setCell (Nat.le_refl _) _⟩
                  case measure => simp [intOf]; omega
                · have hkeq : k = B.length := by omega
                  subst hkeq
                  have HAB : Hid (IsInts .u8 wr (.slice (some ⟨wo2.heap.size, 0, none⟩) (A ++ B).length (A ++ B).length) (A ++ B)) := Part.ints (by have h6 := HP2.out; rwa [← List.length_append] at h6) (by unfold maxLen; simp; omega)
                  rw [List.length_append] at HAB
                  have HA5 : Hid (IsInts .u8 wr (.slice a' A.length cap') A) := IsInts.below HA3.out (by exact hbel2)
                  have HB5 : Hid (IsInts .u8 wr (.slice b' B.length cap3) B) := IsInts.below HB3.out (by exact hbel2)
                  have HW5 : Hid (Below w'.heap.size w' wr) := HBB.out.trans (hbel2.mono HBB.out.size)
                  clear HP2 HP HP0 hbel hbel2 HA3 HB3 HBB hb1 hgs hk hk2 hlt hlt2
                  go_wp2_with fail
                  refine (zzLineStarts_any (A ++ B) _ _ HAB.out (by simp; omega)).mono ?_
                  rintro e w6 ⟨vg, rfl, hog, hb6⟩
                  have HG6 : Hid (IsInts .i64 w6 vg (lineStarts (A ++ B))) := ints_of_owns hog
                  obtain ⟨ga, gcap, rfl, hg1, hg2, hgc⟩ := ints_of_owns hog
                  unfold maxLen at hg2
                  have HA6 : Hid (IsInts .u8 w6 (.slice a' A.length cap') A) := IsInts.below HA5.out (by exact hb6)
                  have HB6 : Hid (IsInts .u8 w6 (.slice b' B.length cap3) B) := IsInts.below HB5.out (by exact hb6)
                  have HW6 : Hid (Below w'.heap.size w' w6) := HW5.out.trans (hb6.mono HW5.out.size)
                  clear hog hb6 HAB HA5 HB5 HW5
                  have hl2 := lineStarts_len (A ++ B)
                  have hmx := lineStarts_max (A ++ B)
                  obtain ⟨gb, go, rfl, hc0⟩ := hgc 0 (by omega)
                  obtain ⟨gb', go', hgg, hcl⟩ := hgc ((lineStarts (A ++ B)).length - 1) (by omega)
                  simp only [Option.some.injEq, Addr.mk.injEq, and_true] at hgg
                  obtain ⟨rfl, rfl⟩ := hgg
                  rw [lineStarts_head] at hc0
                  rw [lineStarts_last] at hcl
                  rw [List.length_append] at hcl hmx
                  generalize (lineStarts (A ++ B)).length = L at *
                  clear hgc
                  simp only [Nat.add_zero] at hc0
                  go_wp2_with fail
                  refine (zzLineStarts_any A _ _ HA6.out (by omega)).mono ?_
                  rintro e w7 ⟨vla, rfl, hola, hb7⟩
                  have HL7 : Hid (IsInts .i64 w7 vla (lineStarts A)) := ints_of_owns hola
                  obtain ⟨la, lcap, rfl, hla1, hla2, -⟩ := ints_of_owns hola
                  unfold maxLen at hla2
                  have HG7 : Hid (IsInts .i64 w7 (.slice (some ⟨gb, go, none⟩) L gcap) (lineStarts (A ++ B))) := IsInts.below HG6.out (by exact hb7)
                  have HA7 : Hid (IsInts .u8 w7 (.slice a' A.length cap') A) := IsInts.below HA6.out (by exact hb7)
                  have HB7 : Hid (IsInts .u8 w7 (.slice b' B.length cap3) B) := IsInts.below HB6.out (by exact hb7)
                  have HW7 : Hid (Below w'.heap.size w' w7) := HW6.out.trans (hb7.mono HW6.out.size)
                  clear hola hb7 HG6 HA6 HB6 HW6 hc0 hcl
                  go_wp2_with fail
                  refine (zzLineStarts_any B _ _ HB7.out (by omega)).mono ?_
                  rintro e w8 ⟨vlb, rfl, holb, hb8⟩
                  have HM8 : Hid (IsInts .i64 w8 vlb (lineStarts B)) := ints_of_owns holb
                  obtain ⟨lb, mcap, rfl, hlb1, hlb2, -⟩ := ints_of_owns holb
                  unfold maxLen at hlb2
                  have HL8 : Hid (IsInts .i64 w8 (.slice la (lineStarts A).length lcap) (lineStarts A)) := IsInts.below HL7.out (by exact hb8)
                  have HG8 : Hid (IsInts .i64 w8 (.slice (some ⟨gb, go, none⟩) L gcap) (lineStarts (A ++ B))) := IsInts.below HG7.out (by exact hb8)
                  have HA8 : Hid (IsInts .u8 w8 (.slice a' A.length cap') A) := IsInts.below HA7.out (by exact hb8)
                  have HW8 : Hid (Below w'.heap.size w' w8) := HW7.out.trans (hb8.mono HW7.out.size)
                  have hAl := lineStarts_len A
                  have hBl := lineStarts_len B
                  have hAm := lineStarts_max A
                  have hBm := lineStarts_max B
                  clear holb hb8 HL7 HG7 HA7 HB7 HW7
                  by_cases hA0 : A = []
                  · subst hA0
                    simp only [List.length_nil] at *
                    go_wp2_with fail
                    refine (sameInts_any _ _ _ _ _ HG8.out HM8.out rfl).mono ?_
                    rintro e w9 ⟨rfl, hb9⟩
                    go_wp2_with fail
                    go_ret
                    exact ⟨rfl, HW8.out.trans (hb9.mono HW8.out.size)⟩
                  · have hApos : 0 < A.length := List.length_pos_iff.2 hA0
                    have hAne : ((A.length : Int) == 0) = false := by simp; omega
                    by_cases hB0 : B = []
                    · subst hB0
                      simp only [List.length_nil] at *
                      go_wp2_with fail
                      refine (sameInts_any _ _ _ _ _ HG8.out HL8.out (lineStarts_nil_right A)).mono ?_
                      rintro e w9 ⟨rfl, hb9⟩
                      go_wp2_with fail
                      go_ret
                      exact ⟨rfl, HW8.out.trans (hb9.mono HW8.out.size)⟩
                    · have hBpos : 0 < B.length := List.length_pos_iff.2 hB0
                      have hBne : ((B.length : Int) == 0) = false := by simp; omega
                      obtain ⟨A', c, hAc⟩ : ∃ A' c, A = A' ++ [c] := ⟨A.dropLast, A.getLast hA0, (List.dropLast_concat_getLast hA0).symm⟩
                      have HAc : Hid (A = A' ++ [c]) := hAc
                      have hlast : A.getD (A.length - 1) 0 = c := by rw [hAc]; simp [List.getD]
                      have HJ : Hid (lineStarts (A ++ B) = starts A A.length ++ (if c = 10 then [(A.length : Int)] else []) ++ ((lineStarts B).drop 1).map (· + (A.length : Int))) := by
                        rw [hAc]; exact lineStarts_join A' c B hB0
                      have HTk : Hid ((lineStarts A).take ((lineStarts A).length - 1) = starts A A.length) := lineStarts_take A
                      have HBd : Hid (∀ x ∈ lineStarts B, 0 ≤ x ∧ x ≤ B.length) := lineStarts_bound B
                      obtain ⟨ba, oa, rfl, hca⟩ := HA8.out.cell (j := A.length - 1) (by omega)
                      rw [hlast] at hca
                      have HCA : Hid (w8.cell? ⟨ba, oa + (A.length - 1), none⟩ = some (.int .u8 c)) := hca
                      have hbalt := World.block_lt_of_cell? _ _ hca
                      generalize starts A A.length = SA at *
                      generalize lineStarts A = LA at *
                      generalize lineStarts B = LB at *
                      generalize lineStarts (A ++ B) = LAB at *
                      clear hlast hAc hca hA0 hB0 HA8
                      go_wp2_with (at_make; refine wpList_mk0 _ rfl _ _ 24 rfl Try.underlying24 info3 _ (LA.length + LB.length) rfl rfl (by omega) (by omega) (by decide) ?_)
                      intro w9 hown9 hb9
                      have HO9 : Hid (OwnK .i64 3 w9 w8.heap.size (.slice (some ⟨w8.heap.size, 0, none⟩) 0 (LA.length + LB.length)) 0 []) := ⟨rfl, hown9⟩
                      clear hown9
                      go_wp2_with fail
                      go_loopw [13, 14] (fun v i wr => ∃ k : Nat, k + 1 ≤ LA.length ∧ i = .int .i64 k ∧ OwnK .i64 3 wr w8.heap.size v k (LA.take k) ∧ Below w8.heap.size w8 wr) (fun _ i _ => LA.length - (intOf i).toNat)
                      case atStart => exact ⟨0, by omega, rfl, HO9.out, hb9⟩
                      case round =>
                        obtain ⟨k, hk, rfl, hown, hbel⟩ := hrel
                        by_cases hlt : k + 1 < LA.length
                        · obtain ⟨bl, ol, rfl, hc⟩ := HL8.out.cell (j := k) (by omega)
                          have hc' : wr.cell? ⟨bl, ol + k, none⟩ = some (.int .i64 (LA.getD k 0)) := by rw [hbel.cell (p := ⟨bl, _, none⟩) (World.block_lt_of_cell? _ _ hc)]; exact hc
                          have hts := take_snocI LA k (by omega)
                          generalize LA.getD k 0 = x at *
                          have HTS : Hid (LA.take (k + 1) = LA.take k ++ [x]) := hts
                          clear hc hts
                          go_wp2_with (at_builtin; refine wpList_appK wr rfl _ _ 24 rfl Try.underlying24 info3 rfl hown x 3 rfl (by omega) (by decide) hbel.size ?_)
                          intro g cp w10 hown1 hb10 _
                          have HO : Hid (OwnK .i64 3 w10 w8.heap.size (.slice (some ⟨g, 0, none⟩) (k + 1) cp) (k + 1) (LA.take k ++ [x])) := hown1
                          clear hown1
                          go_wp2_with fail
                          go_roundw
                          case rel => exact ⟨k + 1, by omega, by go_num, by rw [HTS.out]; exact HO.out, hbel.trans hb10⟩
                          case measure => simp [intOf]; omega
                        · have hkeq : LA.length - 1 = k := by omega
                          have hSAk : SA.length = k := by rw [← HTk.out]; simp; omega
                          rw [← hkeq, HTk.out, hkeq] at hown
                          have hca2 : wr.cell? ⟨ba, oa + (A.length - 1), none⟩ = some (.int .u8 c) := by rw [hbel.cell (p := ⟨ba, _, none⟩) hbalt]; exact HCA.out
                          have HSA : Hid (SA.length = k) := hSAk
                          clear hkeq hSAk
                          obtain ⟨PRE, hPRE⟩ : ∃ PRE, PRE = SA ++ (if c = 10 then [(A.length : Int)] else []) := ⟨_, rfl⟩
                          have HPRE : Hid (PRE = SA ++ (if c = 10 then [(A.length : Int)] else [])) := hPRE
                          have hPREl : PRE.length ≤ k + 1 := by rw [hPRE, List.length_append, HSA.out]; split <;> simp
                          rw [← hPRE] at HJ
                          clear hPRE
                          go_upto_if 149 with (fail)
                          go_cut [13] (fun v wc => OwnK .i64 3 wc w8.heap.size v PRE.length PRE ∧ Below w8.heap.size w8 wc)
                          case first =>
                            by_cases hc10 : c = 10
                            · subst hc10
                              go_wp2_with (at_builtin; refine wpList_appK wr rfl _ _ 24 rfl Try.underlying24 info3 rfl hown A.length 3 rfl (by omega) (by decide) hbel.size ?_)
                              intro g cp w10 hown1 hb10 _
                              have HO : Hid (OwnK .i64 3 w10 w8.heap.size (.slice (some ⟨g, 0, none⟩) (k + 1) cp) (k + 1) (SA ++ [(A.length : Int)])) := hown1
                              clear hown1
                              go_wp2_with fail
                              go_meet
                              case rel =>
                                have e2 : PRE = SA ++ [(A.length : Int)] := by rw [HPRE.out]; simp
                                have e1 : PRE.length = k + 1 := by rw [e2]; simp [HSA.out]
                                rw [e1, e2]
                                exact ⟨HO.out, hbel.trans hb10⟩
                            · have hc10' : (c == 10) = false := by simpa using hc10
                              have HC10 : Hid (¬ c = 10) := hc10
                              have HO : Hid (OwnK .i64 3 wr w8.heap.size u13 k SA) := hown
                              clear hc10 hown
                              go_wp2_with fail
                              go_meet
                              case rel =>
                                have e1 : PRE = SA := by rw [HPRE.out, if_neg HC10.out, List.append_nil]
                                rw [e1, HSA.out]
                                exact ⟨HO.out, hbel⟩
                          case rest =>
                            obtain ⟨hown, hbel⟩ := hcut
                            have HO3 : Hid (OwnK .i64 3 wc w8.heap.size u13 PRE.length PRE) := hown
                            have HB3 : Hid (Below w8.heap.size w8 wc) := hbel
                            clear hown hbel
                            go_wp2_with fail
                            go_loopw [13, 15] (fun v i wr => ∃ k : Nat, k + 1 ≤ LB.length ∧ i = .int .i64 (k + 1) ∧ OwnK .i64 3 wr w8.heap.size v (PRE.length + k) (PRE ++ (((LB.drop 1).map (· + (A.length : Int))).take k)) ∧ Below w8.heap.size w8 wr) (fun _ i _ => LB.length - (intOf i).toNat)
                            case atStart => exact ⟨0, by omega, rfl, by simpa using HO3.out, HB3.out⟩
                            case round =>
                              obtain ⟨k, hk, rfl, hown, hbel⟩ := hrel
                              by_cases hlt : k + 1 < LB.length
                              · obtain ⟨bl, ol, rfl, hc⟩ := HM8.out.cell (j := k + 1) (by omega)
                                have hbd := HBd.out (LB.getD (k + 1) 0) (by simp [List.getD, show k + 1 < LB.length by omega])
                                have hc' : wr.cell? ⟨bl, ol + (k + 1), none⟩ = some (.int .i64 (LB.getD (k + 1) 0)) := by rw [hbel.cell (p := ⟨bl, _, none⟩) (World.block_lt_of_cell? _ _ hc)]; exact hc
                                have hts := take_snocI ((LB.drop 1).map (· + (A.length : Int))) k (by simp; omega)
                                have hgd : ((LB.drop 1).map (· + (A.length : Int))).getD k 0 = LB.getD (k + 1) 0 + (A.length : Int) := by simp [List.getD, show k + 1 < LB.length by omega]
                                rw [hgd] at hts
                                generalize LB.getD (k + 1) 0 = x at *
                                generalize (LB.drop 1).map (· + (A.length : Int)) = MB at *
                                have HTS : Hid (MB.take (k + 1) = MB.take k ++ [x + (A.length : Int)]) := hts
                                clear hc hts hgd
                                go_wp2_with (at_builtin; refine wpList_appK wr rfl _ _ 24 rfl Try.underlying24 info3 rfl hown (x + (A.length : Int)) 3 rfl (by omega) (by decide) hbel.size ?_)
                                intro g cp w10 hown1 hb10 _
                                have HO : Hid (OwnK .i64 3 w10 w8.heap.size (.slice (some ⟨g, 0, none⟩) (PRE.length + k + 1) cp) (PRE.length + k + 1) (PRE ++ (MB.take k ++ [x + (A.length : Int)]))) := hown1
                                clear hown1
                                go_wp2_with fail
                                go_roundw
                                case rel => exact ⟨k + 1, by omega, by go_num, by rw [HTS.out]; exact HO.out, hbel.trans hb10⟩
                                case measure => simp [intOf]; omega
                              · have hfin : LAB = PRE ++ (((LB.drop 1).map (· + (A.length : Int))).take k) := by
                                  rw [HJ.out, List.take_of_length_le (l := (LB.drop 1).map (· + (A.length : Int)))]
                                  simp; omega
                                have HW : Hid (IsInts .i64 wr u13 LAB) := by rw [hfin]; exact hown.ints
                                have HG : Hid (IsInts .i64 wr (.slice (some ⟨gb, go, none⟩) L gcap) LAB) := IsInts.below HG8.out (by exact hbel)
                                clear hfin hown
                                go_wp2_with fail
                                refine (sameInts_any _ _ _ _ _ HG.out HW.out rfl).mono ?_
                                rintro e w11 ⟨rfl, hb11⟩
                                go_wp2_with fail
                                go_ret
                                have hW9 := HW8.out.trans (hbel.mono HW8.out.size)
                                exact ⟨rfl, hW9.trans (hb11.mono hW9.size)⟩
    · go_wp2_with fail
      go_ret
      exact ⟨rfl, Below.refl _ _⟩
  · go_wp2_with fail
    go_ret
    exact ⟨rfl, Below.refl _ _⟩
end Go.Proofs.Qxb6617398a
