/-
  Pieces in memory and pieces as data; the starts of the pieces; the whole of rebase, on data.
-/
import Derived.Test.Qxb6617398aJoinB
import Derived.Test.Qxb6617398aFoldPlain
import Derived.Test.Qxb6617398aRebasePlain
namespace Go.Proofs.Qxb6617398a
open Go.RowKit

def Pc.dat (p : Pc) : Dt := (p.off, p.n, p.lit)

theorem dat_join (ps : List Pc) (p : Pc) : (joinP ps p).map Pc.dat = joinD (ps.map Pc.dat) p.dat := by
  by_cases h0 : p.n = 0
  · rw [joinP_zero ps p h0, joinD_zero _ _ h0]
  · by_cases hps : ps = []
    · subst hps
      rw [joinP_nil p h0]
      exact (joinD_nil p.dat h0).symm
    · obtain ⟨qs, l, rfl⟩ := snoc_of ps hps
      by_cases hc : l.lit = none ∧ p.lit = none ∧ l.off + l.n = p.off
      · rw [joinP_merge qs l p h0 hc, List.map_append, List.map_append]
        exact (joinD_merge (qs.map Pc.dat) l.dat p.dat h0 hc).symm
      · rw [joinP_snoc qs l p h0 hc, List.map_append, List.map_append]
        exact (joinD_snoc (qs.map Pc.dat) l.dat p.dat h0 hc).symm

/-- The run of n bytes from byte b on, on data. -/
def runFrom : List Dt → Nat → Nat → List Dt → List Dt
  | [], _, _, out => out
  | q :: r, b, n, out => if b < q.2.1.toNat then runD (q :: r) b (b + n) out else runFrom r (b - q.2.1.toNat) n out

/-- One piece laid on what has come so far. -/
def stepD (fs : List Dt) (out : List Dt) (p : Dt) : List Dt :=
  match p.2.2 with
  | some _ => out ++ [p]
  | none => if 0 < p.2.1 then runFrom fs p.1.toNat p.2.1.toNat out else out

def rebD (ps fs : List Dt) : List Dt := ps.foldl (stepD fs) []

theorem runFrom_eq : ∀ (fs : List Dt) (j b n : Nat) (out : List Dt), j < fs.length → totD (fs.take j) ≤ b → b < totD (fs.take (j + 1)) → runFrom fs b n out = runD (fs.drop j) (b - totD (fs.take j)) (b - totD (fs.take j) + n) out
  | [], j, b, n, out, h, _, _ => by simp at h
  | q :: r, 0, b, n, out, _, _, h2 => by
    have h2' : b < q.2.1.toNat := h2
    rw [runFrom, if_pos h2']
    simp [totD]
  | q :: r, j + 1, b, n, out, h, h1, h2 => by
    simp only [List.take_succ_cons, totD] at h1 h2
    rw [runFrom, if_neg (by omega), runFrom_eq r j (b - q.2.1.toNat) n out (by simpa using h) (by omega) (by omega)]
    simp only [List.take_succ_cons, totD, List.drop_succ_cons]
    rw [show b - q.2.1.toNat - totD (List.take j r) = b - (q.2.1.toNat + totD (List.take j r)) by omega]

/-- Where piece j starts. -/
def startP (fs : List Pc) (j : Nat) : Int := tot (fs.take j)
def starts (fs : List Pc) : List Int := (List.range (fs.length + 1)).map (startP fs)

theorem starts_length (fs : List Pc) : (starts fs).length = fs.length + 1 := by simp [starts]
theorem starts_getD (fs : List Pc) (j : Nat) (h : j ≤ fs.length) : (starts fs).getD j 0 = startP fs j := by
  simp [starts, List.getD, show j < fs.length + 1 by omega]
theorem startP_zero (fs : List Pc) : startP fs 0 = 0 := by simp [startP, tot]
theorem startP_succ (fs : List Pc) (j : Nat) (h : j < fs.length) : startP fs (j + 1) = startP fs j + (fs.getD j Pc.nil).n := by
  rw [startP, take_snocP fs j h, tot_snoc]; rfl
theorem startP_end (fs : List Pc) : startP fs fs.length = tot fs := by simp [startP]
theorem startP_mono (fs : List Pc) (h : ∀ q ∈ fs, 0 ≤ q.n) (i : Nat) : ∀ j, i ≤ j → j ≤ fs.length → startP fs i ≤ startP fs j
  | 0, h1, _ => by have : i = 0 := by omega
                   subst this; omega
  | j + 1, h1, h2 => by
    by_cases hij : i = j + 1
    · subst hij; omega
    · have := startP_mono fs h i j (by omega) (by omega)
      have h3 := startP_succ fs j (by omega)
      have h4 := h _ (getD_memP fs j (by omega))
      omega
theorem startP_le (fs : List Pc) (h : ∀ q ∈ fs, 0 ≤ q.n) (j : Nat) (hj : j ≤ fs.length) : 0 ≤ startP fs j ∧ startP fs j ≤ tot fs := by
  have h1 := startP_mono fs h 0 j (by omega) hj
  have h2 := startP_mono fs h j fs.length hj (by omega)
  rw [startP_zero] at h1
  rw [startP_end] at h2
  exact ⟨h1, h2⟩

theorem totD_append (a b : List Dt) : totD (a ++ b) = totD a + totD b := by
  induction a with
  | nil => simp [totD]
  | cons q r ih => simp only [List.cons_append, totD, ih]; omega

theorem totD_start (fs : List Pc) (h : ∀ q ∈ fs, 0 ≤ q.n) : ∀ j, j ≤ fs.length → (totD ((fs.map Pc.dat).take j) : Int) = startP fs j
  | 0, _ => by simp [startP, tot, totD]
  | j + 1, hj => by
    rw [startP_succ fs j (by omega), ← totD_start fs h j (by omega), ← List.map_take, take_snocP fs j (by omega), List.map_append, totD_append, ← List.map_take]
    have h4 := h _ (getD_memP fs j (by omega))
    simp only [List.map_cons, List.map_nil, totD]
    show ((totD _ + ((fs.getD j Pc.nil).n.toNat + 0) : Nat) : Int) = _
    omega

/-- The run at byte b, which lies in piece j. -/
theorem runFrom_at (fs : List Pc) (h : ∀ q ∈ fs, 0 ≤ q.n) (j : Nat) (hj : j < fs.length) (b n : Int) (out : List Dt) (h1 : startP fs j ≤ b) (h2 : b < startP fs (j + 1)) (hn : 0 ≤ n) :
    runFrom (fs.map Pc.dat) b.toNat n.toNat out = runD ((fs.drop j).map Pc.dat) (b - startP fs j).toNat (b + n - startP fs j).toNat out := by
  have e1 := totD_start fs h j (by omega)
  have e2 := totD_start fs h (j + 1) (by omega)
  have h0 := (startP_le fs h j (by omega)).1
  rw [runFrom_eq (fs.map Pc.dat) j b.toNat n.toNat out (by simpa using hj) (by omega) (by omega), List.map_drop]
  rw [show (b - startP fs j).toNat = b.toNat - totD (List.take j (fs.map Pc.dat)) by omega, show (b + n - startP fs j).toNat = b.toNat - totD (List.take j (fs.map Pc.dat)) + n.toNat by omega]

/-- What a round of the inner loop does, on data. -/
theorem runD_round (fs : List Pc) (hfs : ∀ q ∈ fs, 0 ≤ q.n) (j : Nat) (hj : j < fs.length) (o E : Int) (out : List Dt) (h1 : startP fs j ≤ o) (h2 : o < E) :
    runD ((fs.drop j).map Pc.dat) (o - startP fs j).toNat (E - startP fs j).toNat out =
    runD ((fs.drop (j + 1)).map Pc.dat) (min E (startP fs (j + 1)) - startP fs (j + 1)).toNat (E - startP fs (j + 1)).toNat (segD (fs.getD j Pc.nil).dat (o - startP fs j).toNat (min E (startP fs (j + 1)) - startP fs j).toNat out) := by
  have e : fs.drop j = fs.getD j Pc.nil :: fs.drop (j + 1) := by
    rw [List.drop_eq_getElem_cons hj]
    simp [List.getD, hj]
  have h4 := hfs _ (getD_memP fs j hj)
  have h3 := startP_succ fs j hj
  rw [e, List.map_cons, runD, if_pos (by omega)]
  have f1 : (min E (startP fs (j + 1)) - startP fs (j + 1)).toNat = 0 := by omega
  have f2 : (E - startP fs (j + 1)).toNat = (E - startP fs j).toNat - (fs.getD j Pc.nil).dat.2.1.toNat := by
    show _ = _ - (fs.getD j Pc.nil).n.toNat
    omega
  have f3 : (min E (startP fs (j + 1)) - startP fs j).toNat = min (E - startP fs j).toNat (fs.getD j Pc.nil).dat.2.1.toNat := by
    show _ = min _ (fs.getD j Pc.nil).n.toNat
    omega
  rw [f1, f2, f3]

theorem runD_done (fs : List Dt) (lo e : Nat) (out : List Dt) (h : e ≤ lo) : runD fs lo e out = out := by
  cases fs with
  | nil => rfl
  | cons q r => rw [runD, if_neg (by omega)]

/-- What holds of each piece that rebase has laid: sums do not wrap, the literal stands in w. -/
def Good2 (w : Go.World) (p : Pc) : Prop := 0 ≤ p.n ∧ p.n ≤ 2305843009213759487 ∧ (p.lit = none → 0 ≤ p.off ∧ p.off + p.n ≤ 2305843009213759487) ∧ IsLit w p.lv p.lit

theorem Good2.bd {w : Go.World} {p : Pc} (h : Good2 w p) : Bd2 p := ⟨fun hl => by have := h.2.2.1 hl; omega, h.1, by have := h.2.1; omega⟩

theorem good_join {w : Go.World} {ps : List Pc} {p : Pc} (h : ∀ q ∈ ps, Good2 w q) (hp : Good2 w p) : ∀ q ∈ joinP ps p, Good2 w q := by
  refine join_all ps p h (fun _ => hp) ?_
  intro l hl h1 h2 h3 _ _
  have a := hl.2.2.1 h1
  have b := hp.2.2.1 h2
  refine ⟨?_, ?_, fun _ => ?_, hl.2.2.2⟩
  · show 0 ≤ l.n + p.n
    have := hl.1; have := hp.1; omega
  · show l.n + p.n ≤ _
    omega
  · show 0 ≤ l.off ∧ l.off + (l.n + p.n) ≤ _
    omega

theorem good_snoc {w : Go.World} {ps : List Pc} {p : Pc} (h : ∀ q ∈ ps, Good2 w q) (hp : Good2 w p) : ∀ q ∈ ps ++ [p], Good2 w q := by
  intro q hq
  rcases List.mem_append.1 hq with h1 | h1
  · exact h q h1
  · simp at h1; subst h1; exact hp

theorem good_lits {w : Go.World} {ps : List Pc} (h : ∀ q ∈ ps, Good2 w q) : Lits w ps := fun p hp => (h p hp).2.2.2

theorem sub_length (bs : List Int) (lo hi : Nat) (h : hi ≤ bs.length) : (sub bs lo hi).length = hi - lo := by simp [sub]; omega
theorem sub_getD (bs : List Int) (lo hi j : Nat) (hj : j < hi - lo) : (sub bs lo hi).getD j 0 = bs.getD (lo + j) 0 := by
  simp [sub, List.getD, List.getElem?_drop, show lo + j < hi by omega]
end Go.Proofs.Qxb6617398a
