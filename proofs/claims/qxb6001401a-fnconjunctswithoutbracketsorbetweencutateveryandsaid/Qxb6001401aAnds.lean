/- The plain law of conjuncts: the runs between the words AND. -/
import Derived.Test.Qxb6001401aConj
set_option linter.unusedSimpArgs false
set_option linter.unusedVariables false
namespace Go.Proofs.Qxb6001401a
open Go.ChangeShapes Go.WideShapes Go.ChangeAt Go.RowKit

/-- the place k ends a run: the word AND, or the end -/
def andAt (T : List Tok) (k : Nat) : Bool := match T[k]? with
  | some t => t.isWord bAnd
  | none => true

def andTo (T : List Tok) : Nat → Nat × List (Nat × Nat)
  | 0 => (0, [])
  | k + 1 => if andAt T k then (k + 1, (andTo T k).2 ++ [((andTo T k).1, k)]) else andTo T k

theorem and_no {T : List Tok} {k : Nat} (h : andAt T k = false) : andTo T (k + 1) = andTo T k := by simp [andTo, h]
theorem and_cut {T : List Tok} {k : Nat} (h : andAt T k = true) : andTo T (k + 1) = (k + 1, (andTo T k).2 ++ [((andTo T k).1, k)]) := by simp [andTo, h]
theorem andAt_some {T : List Tok} {k : Nat} {t : Tok} (h : T[k]? = some t) : andAt T k = t.isWord bAnd := by simp [andAt, h]

theorem and_le (T : List Tok) (k : Nat) : (andTo T k).1 ≤ k ∧ (andTo T k).2.length ≤ k := by
  induction k with
  | zero => simp [andTo]
  | succ k ih =>
    cases h : andAt T k with
    | false => rw [and_no h]; omega
    | true => rw [and_cut h]; simp; omega

theorem and_onto (T : List Tok) (k m : Nat) : ∃ r, (andTo T (k + m)).2 = (andTo T k).2 ++ r := by
  induction m with
  | zero => exact ⟨[], by simp⟩
  | succ m ih =>
    obtain ⟨r, hr⟩ := ih
    rw [← Nat.add_assoc]
    cases h : andAt T (k + m) with
    | false => exact ⟨r, by rw [and_no h, hr]⟩
    | true => exact ⟨r ++ [((andTo T (k + m)).1, k + m)], by rw [and_cut h, hr, List.append_assoc]⟩

theorem and_at (T : List Tok) (k M : Nat) (hk : k < M) (h : andAt T k = true) : (andTo T M).2[(andTo T k).2.length]? = some ((andTo T k).1, k) := by
  obtain ⟨r, hr⟩ := and_onto T (k + 1) (M - (k + 1))
  rw [show k + 1 + (M - (k + 1)) = M by omega] at hr
  rw [hr, and_cut h]
  simp

theorem and_count (T : List Tok) (k M : Nat) (hk : k ≤ M) : (andTo T k).2.length ≤ (andTo T M).2.length := by
  obtain ⟨r, hr⟩ := and_onto T k (M - k)
  rw [show k + (M - k) = M by omega] at hr
  rw [hr]
  simp

/-- no AND in the run -/
def NoAnd (T : List Tok) (x : Nat × Nat) : Prop := x.1 ≤ x.2 ∧ ∀ i, x.1 ≤ i → i < x.2 → andAt T i = false

theorem and_parts (T : List Tok) (k : Nat) : (∀ x ∈ (andTo T k).2, NoAnd T x ∧ x.2 < k) ∧ NoAnd T ((andTo T k).1, k) := by
  induction k with
  | zero => exact ⟨by simp [andTo], ⟨Nat.le_refl _, fun i _ h => by simp at h⟩⟩
  | succ k ih =>
    cases h : andAt T k with
    | false =>
      rw [and_no h]
      refine ⟨fun x hx => ⟨(ih.1 x hx).1, by have := (ih.1 x hx).2; omega⟩, by have := ih.2.1; simp only at this ⊢; omega, fun i h1 h2 => ?_⟩
      by_cases e : i = k
      · subst e; exact h
      · exact ih.2.2 i h1 (by simp only at h2 ⊢; omega)
    | true =>
      rw [and_cut h]
      refine ⟨fun x hx => ?_, Nat.le_refl _, fun i h1 h2 => by simp only at h1 h2; omega⟩
      simp only [List.mem_append, List.mem_singleton] at hx
      rcases hx with hx | rfl
      · exact ⟨(ih.1 x hx).1, by have := (ih.1 x hx).2; omega⟩
      · exact ⟨ih.2, by simp⟩

theorem and_none (T : List Tok) (N : Nat) (h : (andTo T N).2 = []) : ∀ k, k < N → andAt T k = false := by
  intro k hk
  cases hh : andAt T k with
  | false => rfl
  | true =>
    have := and_at T k N hk hh
    rw [h] at this
    simp at this

theorem and_zero (T : List Tok) (k : Nat) (h : (andTo T k).2 = []) : (andTo T k).1 = 0 := by
  induction k with
  | zero => rfl
  | succ k ih =>
    cases hh : andAt T k with
    | false => rw [and_no hh] at h ⊢; exact ih h
    | true => rw [and_cut hh] at h; simp at h

theorem andAt_end (T : List Tok) (N : Nat) (hN : T.length = N) : andAt T N = true := by
  unfold andAt
  rw [List.getElem?_eq_none (by omega)]

/-- the whole: the parts, and what is behind the last AND -/
theorem and_whole (T : List Tok) (N : Nat) (hN : T.length = N) : (andTo T (N + 1)).2 = (andTo T N).2 ++ [((andTo T N).1, N)] := by
  rw [and_cut (andAt_end T N hN)]

/-- the value of the tokens from x.1 to x.2, as Go cuts them -/
def ptV (B N : Nat) (x : Nat × Nat) : Value := .slice (some ⟨B, if N = x.1 then 0 else x.1 * 3, none⟩) (x.2 - x.1) (N - x.1)

theorem ptV_st (B N : Nat) (x : Nat × Nat) (h : x.1 < N) : ptV B N x = stV B N x := by
  unfold ptV stV
  rw [if_neg (by omega)]

theorem parts_st (T : List Tok) (B N : Nat) : (andTo T N).2.map (ptV B N) = (andTo T N).2.map (stV B N) := by
  apply List.map_congr_left
  intro x hx
  have := (and_parts T N).1 x hx
  exact ptV_st B N x (by have := this.1.1; omega)

/-- a part: its tokens -/
theorem part_view {w : World} {B N : Nat} {T : List Tok} (h : TokSl w (some ⟨B, 0, none⟩) T) (hN : T.length = N) (x : Nat × Nat) (hx : x.1 ≤ x.2) (hxN : x.2 ≤ N) :
    ∃ o, ptV B N x = .slice (some ⟨B, o, none⟩) (x.2 - x.1) (N - x.1) ∧ TokSl w (some ⟨B, o, none⟩) ((T.drop x.1).take (x.2 - x.1)) := by
  refine ⟨_, rfl, ?_⟩
  by_cases e : N = x.1
  · rw [if_pos e]
    intro i t hi
    rw [List.drop_eq_nil_of_le (by omega)] at hi
    simp at hi
  · rw [if_neg e]
    exact h.part _ _

/-- in a part nothing is joined -/
theorem part_and {T : List Tok} {x : Nat × Nat} (h : NoAnd T x) (k : Nat) (t : Tok) (hk : ((T.drop x.1).take (x.2 - x.1))[k]? = some t) : t.isWord bAnd = false := by
  rw [List.getElem?_take] at hk
  by_cases e : k < x.2 - x.1
  · rw [if_pos e, List.getElem?_drop] at hk
    have := h.2 (x.1 + k) (by omega) (by omega)
    rw [andAt_some hk] at this
    exact this
  · rw [if_neg e] at hk; cases hk

theorem part_mild {T : List Tok} (hM : ∀ (k : Nat) (t : Tok), T[k]? = some t → Mild t) (s m : Nat) (k : Nat) (t : Tok) (hk : ((T.drop s).take m)[k]? = some t) : Mild t := by
  rw [List.getElem?_take] at hk
  by_cases e : k < m
  · rw [if_pos e, List.getElem?_drop] at hk
    exact hM _ t hk
  · rw [if_neg e] at hk; cases hk

end Go.Proofs.Qxb6001401a
