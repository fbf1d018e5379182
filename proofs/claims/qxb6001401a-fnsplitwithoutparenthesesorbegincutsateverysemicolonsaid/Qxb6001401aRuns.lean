/- The plain law of split's second statement: where nothing opens, every semicolon cuts. -/
import Derived.Test.Qxb6001401aCut
set_option linter.unusedSimpArgs false
set_option linter.unusedVariables false
namespace Go.Proofs.Qxb6001401a
open Go.ChangeShapes Go.WideShapes Go.ChangeAt Go.RowKit

/-- the place k ends a run: a semicolon, or the end -/
def cutAt (T : List Tok) (k : Nat) : Bool := match T[k]? with
  | some t => t.isOp bSemi
  | none => true

/-- where the run of the first k places begins, and the runs that have ended -/
def runsTo (T : List Tok) : Nat → Nat × List (Nat × Nat)
  | 0 => (0, [])
  | k + 1 => if cutAt T k then (k + 1, if (runsTo T k).1 < k then (runsTo T k).2 ++ [((runsTo T k).1, k)] else (runsTo T k).2) else runsTo T k

theorem runs_no {T : List Tok} {k : Nat} (h : cutAt T k = false) : runsTo T (k + 1) = runsTo T k := by simp [runsTo, h]
theorem runs_cut {T : List Tok} {k : Nat} (h : cutAt T k = true) (hs : (runsTo T k).1 < k) : runsTo T (k + 1) = (k + 1, (runsTo T k).2 ++ [((runsTo T k).1, k)]) := by simp [runsTo, h, hs]
theorem runs_skip {T : List Tok} {k : Nat} (h : cutAt T k = true) (hs : ¬ (runsTo T k).1 < k) : runsTo T (k + 1) = (k + 1, (runsTo T k).2) := by simp [runsTo, h, hs]

theorem runs_le (T : List Tok) (k : Nat) : (runsTo T k).1 ≤ k ∧ (runsTo T k).2.length ≤ k := by
  induction k with
  | zero => simp [runsTo]
  | succ k ih =>
    cases h : cutAt T k with
    | false => rw [runs_no h]; omega
    | true =>
      by_cases hs : (runsTo T k).1 < k
      · rw [runs_cut h hs]; simp; omega
      · rw [runs_skip h hs]; simp; omega

theorem runs_onto (T : List Tok) (k m : Nat) : ∃ r, (runsTo T (k + m)).2 = (runsTo T k).2 ++ r := by
  induction m with
  | zero => exact ⟨[], by simp⟩
  | succ m ih =>
    obtain ⟨r, hr⟩ := ih
    rw [← Nat.add_assoc]
    cases h : cutAt T (k + m) with
    | false => exact ⟨r, by rw [runs_no h, hr]⟩
    | true =>
      by_cases hs : (runsTo T (k + m)).1 < k + m
      · exact ⟨r ++ [((runsTo T (k + m)).1, k + m)], by rw [runs_cut h hs, hr, List.append_assoc]⟩
      · exact ⟨r, by rw [runs_skip h hs, hr]⟩

/-- the run that ends at k stands at its place in the whole -/
theorem runs_at (T : List Tok) (k M : Nat) (hk : k < M) (h : cutAt T k = true) (hs : (runsTo T k).1 < k) : (runsTo T M).2[(runsTo T k).2.length]? = some ((runsTo T k).1, k) := by
  obtain ⟨r, hr⟩ := runs_onto T (k + 1) (M - (k + 1))
  rw [show k + 1 + (M - (k + 1)) = M by omega] at hr
  rw [hr, runs_cut h hs]
  simp

theorem runs_count (T : List Tok) (k M : Nat) (hk : k ≤ M) : (runsTo T k).2.length ≤ (runsTo T M).2.length := by
  obtain ⟨r, hr⟩ := runs_onto T k (M - k)
  rw [show k + (M - k) = M by omega] at hr
  rw [hr]
  simp

/-- nothing opens -/
def Tame (T : List Tok) : Prop := ∀ (k : Nat) (t : Tok), T[k]? = some t → t.isOp bOpen = false ∧ t.isWord bBegin = false

def RunI (T : List Tok) (k s : Nat) (p : Int) (b : Nat) (acc : List (Nat × Nat)) : Prop := runsTo T k = (s, acc) ∧ p ≤ 0 ∧ b = 0

theorem cutAt_some {T : List Tok} {k : Nat} {t : Tok} (h : T[k]? = some t) : cutAt T k = t.isOp bSemi := by simp [cutAt, h]

theorem runI_inv (T : List Tok) (hT : Tame T) : SplitInv T (RunI T) where
  start := ⟨rfl, by omega, rfl⟩
  opens k s p b acc t ht h ho := by rw [(hT k t ht).1] at ho; cases ho
  closes k s p b acc t ht h _ ho := by
    have : t.isOp bSemi = false := op_no_op ho (by decide +kernel)
    exact ⟨by rw [runs_no (by rw [cutAt_some ht]; exact this)]; exact h.1, by have := h.2.1; omega, h.2.2⟩
  more k s p b acc t ht h _ _ ho := by
    rcases ho with ho | ho
    · rw [(hT k t ht).2] at ho; cases ho
    · have := h.2.2; omega
  less k s p b acc t ht h _ _ _ ho := by have := h.2.2; omega
  cuts k s p b acc t ht h _ _ hs hp hb hsk := by
    obtain ⟨h1, h2, h3⟩ := h
    refine ⟨?_, by omega, rfl⟩
    rw [runs_cut (by rw [cutAt_some ht]; exact hs) (by rw [h1]; exact hsk), h1]
  skips k s p b acc t ht h _ _ hs hp hb hsk := by
    obtain ⟨h1, h2, h3⟩ := h
    refine ⟨?_, by omega, rfl⟩
    rw [runs_skip (by rw [cutAt_some ht]; exact hs) (by rw [h1]; exact hsk), h1]
  stays k s p b acc t ht h _ _ hs := by
    have : t.isOp bSemi = false := by
      cases hh : t.isOp bSemi with
      | false => rfl
      | true => exact (hs hh h.2.1 h.2.2).elim
    exact ⟨by rw [runs_no (by rw [cutAt_some ht]; exact this)]; exact h.1, h.2⟩

/-- what split leaves: the runs -/
theorem runs_of (T : List Tok) (N s : Nat) (p : Int) (b : Nat) (acc : List (Nat × Nat)) (hN : T.length = N) (h : RunI T N s p b acc) : (if s < N then acc ++ [(s, N)] else acc) = (runsTo T (N + 1)).2 := by
  have hc : cutAt T N = true := by simp [cutAt, ← hN]
  obtain ⟨h1, _, _⟩ := h
  by_cases hs : s < N
  · rw [if_pos hs, runs_cut hc (by rw [h1]; exact hs), h1]
  · rw [if_neg hs, runs_skip hc (by rw [h1]; exact hs), h1]

end Go.Proofs.Qxb6001401a
