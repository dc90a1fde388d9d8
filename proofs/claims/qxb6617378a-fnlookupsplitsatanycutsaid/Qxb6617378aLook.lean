/-
  The walks of (*scope).lookup, ZZLookup, ZZNewScope.
-/
import Derived.Test.Qxb6617378aRows
import Derived.Test.Qxb6617378aPlain
import Derived.Deep.LoopGhost
namespace Go.Proofs.Qxb6617378a
open Go.RowKit

def xmlB : ByteArray := ⟨#[120, 109, 108]⟩
def nsB : ByteArray := ⟨#[104, 116, 116, 112, 58, 47, 47, 119, 119, 119, 46, 119, 51, 46, 111, 114, 103, 47, 88, 77, 76, 47, 49, 57, 57, 56, 47, 110, 97, 109, 101, 115, 112, 97, 99, 101]⟩

theorem zero9 (w : World) : (zeroValue 9).run Try.prog w = .ok (.string ByteArray.empty) w := by kernel_rfl

theorem decls_look {w : World} {m : Value} {d : KV} (h : IsDecls w m d) (q : ByteArray) :
    (Instr.lookup 33 m (.string q) true).run Try.prog w = .ok (.tuple #[.string ((find q d).getD ByteArray.empty), .bool (find q d).isSome]) w := by
  rcases h with ⟨rfl, rfl⟩ | ⟨r, es, clock, rfl, hb, he⟩
  · exact run_look_nil Try.underlying33 Try.underlying9 (zero9 w) q
  · exact run_look Try.underlying33 Try.underlying9 (zero9 w) hb he q

theorem str_eq (a b : ByteArray) : (a.toList == b.toList) = decide (a = b) := by
  rw [Bool.eq_iff_iff, beq_iff_eq, decide_eq_true_iff]
  constructor
  · intro h
    rw [ByteArray.toList_eq, ByteArray.toList_eq] at h
    cases a; cases b
    simpa using h
  · intro h; rw [h]

theorem str_empty (q : ByteArray) : q.toList.isEmpty = decide (q = ByteArray.empty) := by
  rw [Bool.eq_iff_iff, List.isEmpty_iff, decide_eq_true_iff, ByteArray.toList_eq]
  constructor
  · intro h
    cases q with | mk d =>
    have : d = #[] := by simpa using h
    subst this; rfl
  · intro h; rw [h]; rfl

set_option maxHeartbeats 400000 in
theorem lookup_any (ds : List KV) (s : Value) (q : ByteArray) (w : World) (hs : IsScope w ds s) (hq : (q.toList == [120, 109, 108]) = false) :
    Calls Try.prog 15 #[s, .string q] w fun e w' => e = .returned (.tuple #[.string (chainLook q ds).1, .bool (chainLook q ds).2]) ∧ w' = w := by
  go_enter Try.func15, Try.ntmps15
  go_wp2
  go_loopg [0] ds.length (fun k s wr => wr = w ∧ ∃ ds' : List KV, ds'.length = k ∧ IsScope w ds' s ∧ chainLook q ds' = chainLook q ds)
  case atStart => exact ⟨rfl, ds, rfl, hs, rfl⟩
  case round =>
    obtain ⟨rfl, ds', hk, hsc, hl⟩ := hrel
    have HL : Hid (chainLook q ds' = chainLook q ds) := hl
    have HK : Hid (ds'.length = gk) := hk
    clear hl hk hs
    cases ds' with
    | nil =>
      have h0 : u0 = .pointer none := hsc
      subst h0
      clear hsc
      go_wp2
      go_ret2
      have hl := HL.out
      rw [← hl]
      refine ⟨?_, rfl⟩
      simp only [chainLook, str_empty]
      rfl
    | cons d ds'' =>
      obtain ⟨b, p, m, rfl, h2, h3, h4, h5⟩ := hsc
      have hlk := decls_look h4 q
      cases hf : find q d with
      | none =>
        have Hf : Hid (find q d = none) := hf
        rw [hf] at hlk
        clear hf h4
        have H5 : Hid (IsScope wr ds'' p) := h5
        clear h5
        go_wp2
        go_roundg ds''.length
        case measure => rw [← HK.out]; simp
        case rel => exact ⟨rfl, ds'', rfl, H5.out, by rw [← HL.out, chainLook, Hf.out]⟩
      | some u =>
        have Hf : Hid (find q d = some u) := hf
        rw [hf] at hlk
        clear hf h4 h5
        go_wp2
        go_ret2
        rw [← HL.out]
        refine ⟨?_, rfl⟩
        simp [chainLook, Hf.out]

/-- What a scope answers. -/
def look (q : ByteArray) (ds : List KV) : ByteArray × Bool := if q = xmlB then (nsB, true) else chainLook q ds

set_option maxHeartbeats 400000 in
theorem lookup_xml (s : Value) (q : ByteArray) (w : World) (hq : (q.toList == [120, 109, 108]) = true) :
    Calls Try.prog 15 #[s, .string q] w fun e w' => e = .returned (.tuple #[.string nsB, .bool true]) ∧ w' = w := by
  go_enter Try.func15, Try.ntmps15
  go_wp2
  go_ret2
  exact ⟨rfl, rfl⟩

theorem lookup_all (ds : List KV) (s : Value) (q : ByteArray) (w : World) (hs : IsScope w ds s) :
    Calls Try.prog 15 #[s, .string q] w fun e w' => e = .returned (.tuple #[.string (look q ds).1, .bool (look q ds).2]) ∧ w' = w := by
  by_cases h : q = xmlB
  · unfold look
    rw [if_pos h]
    exact lookup_xml s q w (by rw [h]; decide +kernel)
  · unfold look
    rw [if_neg h]
    refine lookup_any ds s q w hs ?_
    have := str_eq q xmlB
    rw [show xmlB.toList = [120, 109, 108] by decide +kernel] at this
    rw [this]
    exact decide_eq_false h

set_option maxHeartbeats 400000 in
theorem zzlookup_all (ds : List KV) (s : Value) (q : ByteArray) (w : World) (hs : IsScope w ds s) :
    Calls Try.prog 8 #[s, .string q] w fun e w' => e = .returned (.tuple #[.string (look q ds).1, .bool (look q ds).2]) ∧ w' = w := by
  generalize hu : (look q ds).1 = u
  generalize hk : (look q ds).2 = k
  have hc : ∀ w, IsScope w ds s → Calls Try.prog 15 #[s, .string q] w fun e w' => e = .returned (.tuple #[.string u, .bool k]) ∧ w' = w := by
    intro w h
    rw [← hu, ← hk]
    exact lookup_all ds s q w h
  clear hu hk
  have HC : Hid _ := hc
  have HS : Hid _ := hs
  clear hc hs
  go_enter Try.func8, Try.ntmps8
  go_wp2_with fail
  refine (HC.out _ HS.out).mono ?_
  rintro e w' ⟨rfl, rfl⟩
  go_wp2
  go_ret2
  exact ⟨rfl, rfl⟩

theorem IsScope.shape {w : World} {ds : List KV} {v : Value} (h : IsScope w ds v) : ∃ u, v = .pointer u := by
  cases ds with
  | nil => exact ⟨_, h⟩
  | cons d ds => obtain ⟨b, p, m, h1, _⟩ := h; exact ⟨_, h1⟩

theorem IsDecls.shape {w : World} {m : Value} {d : KV} (h : IsDecls w m d) : ∃ r, m = .map r := by
  rcases h with ⟨h, _⟩ | ⟨r, _, _, h, _⟩ <;> exact ⟨_, h⟩

set_option maxHeartbeats 400000 in
theorem newscope_any (ds : List KV) (d : KV) (s m : Value) (w : World) (hs : IsScope w ds s) (hm : IsDecls w m d) :
    Calls Try.prog 14 #[s, m] w fun e w' => ∃ v, e = .returned v ∧ IsScope w' (d :: ds) v ∧ Below w.heap.size w w' := by
  obtain ⟨u, rfl⟩ := hs.shape
  obtain ⟨r, rfl⟩ := hm.shape
  have HS : Hid _ := hs
  have HM : Hid _ := hm
  clear hs hm
  go_enter Try.func14, Try.ntmps14
  go_wp2
  go_ret
  have hb : Below w.heap.size w (w.alloc (Obj.cells #[.pointer u, .map r] 39)) := (Below.refl _ _).alloc (Nat.le_refl _) _
  exact ⟨_, rfl, ⟨w.heap.size, .pointer u, .map r, rfl, by simp, by simp, IsDecls.below HM.out hb, IsScope.below hb HS.out⟩, hb⟩
end Go.Proofs.Qxb6617378a
