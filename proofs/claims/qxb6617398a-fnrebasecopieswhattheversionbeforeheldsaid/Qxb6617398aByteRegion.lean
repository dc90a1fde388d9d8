/-
  One region of rebaseModel, walked once: 'want[k].Lit = append(want[k].Lit, byte(t.v))'.
-/
import Derived.Test.Qxb6617398aModelLits
import Derived.Deep.RegionLaw
namespace Go.Proofs.Qxb6617398a
open Go.RowKit

/-- The region of this number. -/
def regionAt (n : Nat) : Code → Option Code
  | .region id ops d => if id = n then some (.region id ops d) else none
  | .seq a b => match regionAt n a with
    | some c => some c
    | none => regionAt n b
  | .block _ c => regionAt n c
  | .scope c => regionAt n c
  | .loop c => regionAt n c
  | .cond _ a b => match regionAt n a with
    | some c => some c
    | none => regionAt n b
  | _ => none

/-- The region of the byte's append. -/
noncomputable def byteCode : Code := (Try.f29.body.bind (regionAt 42)).getD .skip

set_option maxRecDepth 1000000 in
set_option maxHeartbeats 4000000 in
theorem byte_region (c : Code) (hc : c = byteCode) (K : Act → World → Prop) (Q : Exit → Act → World → Prop) (gb m cp tk lg lc base : Nat) (vv : Int) (bs : List Int) (W w0 : World) (q0 q1 q2 q3 q4 q5 q6 q7 q8 q9 q10 q11 q13 q14 q15 q16 q19 q20 q21 q22 q23 q24 q25 q26 q27 q28 q29 q30 q31 q32 q33 q34 q35 q36 q37 q38 q39 q40 q41 q42 q43 q44 q45 q46 q47 q48 q49 q50 q51 q52 q53 q54 q55 q56 q57 q58 q59 q60 q61 q62 q63 q64 q65 q66 q67 q68 q69 q70 q71 q72 q73 q74 q75 q76 q77 q78 q79 q80 q81 q82 q83 q84 q85 q86 q87 q88 q89 q90 q91 q92 q93 q94 q95 q96 q97 q98 q99 q100 q101 q102 q103 q104 q105 q106 q107 q108 q109 q110 q111 q112 q113 q114 q115 q116 q117 q118 q119 q120 q121 q122 q123 q124 q125 q126 q127 q128 q129 q130 q131 q132 q133 q134 q135 q136 q137 q138 q139 q140 q141 q142 q143 q144 q145 q146 q147 q148 q149 q150 q151 q152 q153 q154 q155 q156 q157 q158 q159 q160 q161 q162 q163 q164 q165 q166 q167 q168 q169 q170 q171 q172 q173 q174 q175 q176 q177 q178 q179 q180 q181 q182 q183 q184 q185 q186 q187 q188 q189 q190 q191 q192 q193 q194 q195 q196 q197 q198 q199 q200 q201 q202 q203 q204 q205 q206 q207 q208 q209 q210 q211 q212 q213 q214 q215 q216 q217 q218 q219 q220 q221 q222 q223 q224 q225 q226 q227 : Value)
    (htk : W.cell? ⟨tk, 1, none⟩ = some (.int .i64 vv)) (hv0 : 0 ≤ vv) (hv1 : vv ≤ 255) (hbl : bs.length < 1048576000)
    (hcl : W.cell? ⟨gb, m * 3 + 2, none⟩ = some (.slice (some ⟨lg, 0, none⟩) bs.length lc))
    (hrow : W.ownsRow base 5 1 (.slice (some ⟨lg, 0, none⟩) bs.length lc) bs.length (bs.map (Value.int .u8))) (hbase : base ≤ W.heap.size) (hbel : Below w0.heap.size w0 W)
    (hkp : ∀ W1 w6 : World, W1.grownBy w6 (Value.slice (some ⟨lg, 0, none⟩) bs.length lc).ownBlock → W1.heap = (W.alloc (Obj.cells #[.int .u8 vv] 5)).heap → w6.cell? ⟨gb, m * 3 + 2, none⟩ = some (.slice (some ⟨lg, 0, none⟩) bs.length lc) ∧ (∀ y, w6.frozen? ⟨gb, y, none⟩ = false))
    (hQ : ∀ (W1 w6 : World) (g6 c6 : Nat) (x203 x204 x205 x206 x207 x208 x209 x210 x211 x212 x213 x214 x215 x216 : Value), W1.grownBy w6 (Value.slice (some ⟨lg, 0, none⟩) bs.length lc).ownBlock → W1.heap = (W.alloc (Obj.cells #[.int .u8 vv] 5)).heap → Below w0.heap.size w0 W1 → w6.ownsRow base 5 1 (.slice (some ⟨g6, 0, none⟩) (bs.length + 1) c6) (bs.length + 1) (bs.map (Value.int .u8) ++ [.int .u8 vv]) →
      K ⟨#[q0, q1, q2, q3, q4, q5, q6, q7, q8, q9, q10, q11, .slice (some ⟨gb, 0, none⟩) (m + 1) cp, q13, q14, q15, q16, .pointer (some ⟨tk, 0, none⟩), .int .i64 (m : Int), q19, q20, q21, q22, q23, q24, q25, q26, q27, q28, q29, q30, q31, q32, q33, q34, q35, q36, q37, q38, q39, q40, q41, q42, q43, q44, q45, q46, q47, q48, q49, q50, q51, q52, q53, q54, q55, q56, q57, q58, q59, q60, q61, q62, q63, q64, q65, q66, q67, q68, q69, q70, q71, q72, q73, q74, q75, q76, q77, q78, q79, q80, q81, q82, q83, q84, q85, q86, q87, q88, q89, q90, q91, q92, q93, q94, q95, q96, q97, q98, q99, q100, q101, q102, q103, q104, q105, q106, q107, q108, q109, q110, q111, q112, q113, q114, q115, q116, q117, q118, q119, q120, q121, q122, q123, q124, q125, q126, q127, q128, q129, q130, q131, q132, q133, q134, q135, q136, q137, q138, q139, q140, q141, q142, q143, q144, q145, q146, q147, q148, q149, q150, q151, q152, q153, q154, q155, q156, q157, q158, q159, q160, q161, q162, q163, q164, q165, q166, q167, q168, q169, q170, q171, q172, q173, q174, q175, q176, q177, q178, q179, q180, q181, q182, q183, q184, q185, q186, q187, q188, q189, q190, q191, q192, q193, q194, q195, q196, q197, q198, q199, q200, q201, q202, x203, x204, x205, x206, x207, x208, x209, x210, x211, x212, x213, x214, x215, x216, q217, q218, q219, q220, q221, q222, q223, q224, q225, q226, q227], []⟩ (w6.setCell ⟨gb, m * 3 + 2, none⟩ (.slice (some ⟨g6, 0, none⟩) (bs.length + 1) c6))) :
    Code.wp Try.prog c (Exit.then K Q) ⟨#[q0, q1, q2, q3, q4, q5, q6, q7, q8, q9, q10, q11, .slice (some ⟨gb, 0, none⟩) (m + 1) cp, q13, q14, q15, q16, .pointer (some ⟨tk, 0, none⟩), .int .i64 (m : Int), q19, q20, q21, q22, q23, q24, q25, q26, q27, q28, q29, q30, q31, q32, q33, q34, q35, q36, q37, q38, q39, q40, q41, q42, q43, q44, q45, q46, q47, q48, q49, q50, q51, q52, q53, q54, q55, q56, q57, q58, q59, q60, q61, q62, q63, q64, q65, q66, q67, q68, q69, q70, q71, q72, q73, q74, q75, q76, q77, q78, q79, q80, q81, q82, q83, q84, q85, q86, q87, q88, q89, q90, q91, q92, q93, q94, q95, q96, q97, q98, q99, q100, q101, q102, q103, q104, q105, q106, q107, q108, q109, q110, q111, q112, q113, q114, q115, q116, q117, q118, q119, q120, q121, q122, q123, q124, q125, q126, q127, q128, q129, q130, q131, q132, q133, q134, q135, q136, q137, q138, q139, q140, q141, q142, q143, q144, q145, q146, q147, q148, q149, q150, q151, q152, q153, q154, q155, q156, q157, q158, q159, q160, q161, q162, q163, q164, q165, q166, q167, q168, q169, q170, q171, q172, q173, q174, q175, q176, q177, q178, q179, q180, q181, q182, q183, q184, q185, q186, q187, q188, q189, q190, q191, q192, q193, q194, q195, q196, q197, q198, q199, q200, q201, q202, q203, q204, q205, q206, q207, q208, q209, q210, q211, q212, q213, q214, q215, q216, q217, q218, q219, q220, q221, q222, q223, q224, q225, q226, q227], []⟩ W := by
  refine Code.wp_mono (Q := Exit.then K fun _ _ _ => False) (fun e a w h => by cases e <;> first | exact h | exact h.elim) ?_
  subst hc
  conv => arg 2; whnf
  have hwv : IntKind.u8.wrap vv = vv := by rw [IntKind.wrap_u8]; omega
  have HRW : Hid (W.ownsRow base 5 1 (.slice (some ⟨lg, 0, none⟩) bs.length lc) bs.length (bs.map (Value.int .u8))) := hrow
  have HQ : Hid (∀ (W1 w6 : World) (g6 c6 : Nat) (x203 x204 x205 x206 x207 x208 x209 x210 x211 x212 x213 x214 x215 x216 : Value), W1.grownBy w6 (Value.slice (some ⟨lg, 0, none⟩) bs.length lc).ownBlock → W1.heap = (W.alloc (Obj.cells #[.int .u8 vv] 5)).heap → Below w0.heap.size w0 W1 → w6.ownsRow base 5 1 (.slice (some ⟨g6, 0, none⟩) (bs.length + 1) c6) (bs.length + 1) (bs.map (Value.int .u8) ++ [.int .u8 vv]) →
      K ⟨#[q0, q1, q2, q3, q4, q5, q6, q7, q8, q9, q10, q11, .slice (some ⟨gb, 0, none⟩) (m + 1) cp, q13, q14, q15, q16, .pointer (some ⟨tk, 0, none⟩), .int .i64 (m : Int), q19, q20, q21, q22, q23, q24, q25, q26, q27, q28, q29, q30, q31, q32, q33, q34, q35, q36, q37, q38, q39, q40, q41, q42, q43, q44, q45, q46, q47, q48, q49, q50, q51, q52, q53, q54, q55, q56, q57, q58, q59, q60, q61, q62, q63, q64, q65, q66, q67, q68, q69, q70, q71, q72, q73, q74, q75, q76, q77, q78, q79, q80, q81, q82, q83, q84, q85, q86, q87, q88, q89, q90, q91, q92, q93, q94, q95, q96, q97, q98, q99, q100, q101, q102, q103, q104, q105, q106, q107, q108, q109, q110, q111, q112, q113, q114, q115, q116, q117, q118, q119, q120, q121, q122, q123, q124, q125, q126, q127, q128, q129, q130, q131, q132, q133, q134, q135, q136, q137, q138, q139, q140, q141, q142, q143, q144, q145, q146, q147, q148, q149, q150, q151, q152, q153, q154, q155, q156, q157, q158, q159, q160, q161, q162, q163, q164, q165, q166, q167, q168, q169, q170, q171, q172, q173, q174, q175, q176, q177, q178, q179, q180, q181, q182, q183, q184, q185, q186, q187, q188, q189, q190, q191, q192, q193, q194, q195, q196, q197, q198, q199, q200, q201, q202, x203, x204, x205, x206, x207, x208, x209, x210, x211, x212, x213, x214, x215, x216, q217, q218, q219, q220, q221, q222, q223, q224, q225, q226, q227], []⟩ (w6.setCell ⟨gb, m * 3 + 2, none⟩ (.slice (some ⟨g6, 0, none⟩) (bs.length + 1) c6))) := hQ
  have HKP : Hid (∀ W1 w6 : World, W1.grownBy w6 (Value.slice (some ⟨lg, 0, none⟩) bs.length lc).ownBlock → W1.heap = (W.alloc (Obj.cells #[.int .u8 vv] 5)).heap → w6.cell? ⟨gb, m * 3 + 2, none⟩ = some (.slice (some ⟨lg, 0, none⟩) bs.length lc) ∧ (∀ y, w6.frozen? ⟨gb, y, none⟩ = false)) := hkp
  have hglt : gb < W.heap.size := World.block_lt_of_cell? _ _ hcl
  have D2' : ∀ o', (W.alloc o').cell? ⟨gb, m * 3 + 2, none⟩ = some (.slice (some ⟨lg, 0, none⟩) bs.length lc) := fun o' => by rw [World.cell?_alloc_lt _ _ _ (by exact hglt)]; exact hcl
  have HRA : Hid (∀ W1 : World, W1.heap = (W.alloc (Obj.cells #[.int .u8 vv] 5)).heap → W1.ownsRow base 5 1 (.slice (some ⟨lg, 0, none⟩) bs.length lc) bs.length (bs.map (Value.int .u8))) := fun W1 z1 => owns_heap (HRW.out.alloc _) z1
  have HNW : Hid (∀ W1 : World, W1.heap = (W.alloc (Obj.cells #[.int .u8 vv] 5)).heap → ∀ j u, [Value.int .u8 vv][j]? = some u → W1.cell? ((⟨W.heap.size, 0, none⟩ : Addr).add j) = some u) := by
    intro W1 z1 j u hu
    rw [World.cell?_of_block (w := W.alloc (Obj.cells #[.int .u8 vv] 5)) (by rw [z1])]
    have hj : j = 0 := by
      by_cases h0 : j = 0
      · exact h0
      · have : [Value.int IntKind.u8 vv][j]? = none := List.getElem?_eq_none (by simp; omega)
        rw [this] at hu
        cases hu
    subst hj
    rw [Addr.add_lit, Nat.zero_add, World.cell?_alloc_new]
    simpa using hu
  have HON : Hid (∀ u ∈ [Value.int IntKind.u8 vv], u.oneCell' = true) := fun u hu => by simp at hu; subst hu; rfl
  have HBX : Hid (Below w0.heap.size w0 W) := hbel
  have HSZ : Hid (base ≤ W.heap.size) := hbase
  have hii : (m : Int) < (m : Int) + 1 := by omega
  clear hrow hQ hkp hbel hbase hglt
  go_region_law (refine step_append_own rfl (.tmp 209) (.tmp 213) 22 rfl base 5 _ 1 1 Try.underlying22 info5 rfl (by decide) (.slice (some ⟨lg, 0, none⟩) bs.length lc) bs.length (bs.map (Value.int .u8)) (by simp [Act.eval]) (HRA.out _ rfl) ⟨W.heap.size, 0, none⟩ 1 1 [.int .u8 vv] (by simp [Act.eval]) rfl (HNW.out _ rfl) HON.out (by unfold maxLen; omega) (by omega) (by have h9 := HSZ.out; simp at h9 ⊢; omega) ?_; intro v' w6 hr6 hg6 _; obtain ⟨g6, c6, rfl⟩ := owns_shape hr6; obtain ⟨y2, y3⟩ := HKP.out _ w6 hg6 rfl; have HR6 : Hid _ := hr6; have HG6 : Hid _ := hg6; clear hr6 hg6)
  all_goals exact HQ.out _ _ _ _ _ _ _ _ _ _ _ _ _ _ _ _ _ _ HG6.out rfl (HBX.out.alloc HBX.out.size _).drew HR6.out
end Go.Proofs.Qxb6617398a
