/- The plain law of split's first statement: runs between semicolons. -/
import Derived.Test.Qxb6001401aSplit
set_option linter.unusedSimpArgs false
set_option linter.unusedVariables false
namespace Go.Proofs.Qxb6001401a
open Go.ChangeShapes Go.WideShapes Go.ChangeAt Go.RowKit

/-- semicolons alone from p to q -/
def SemiRun (T : List Tok) (p q : Nat) : Prop := p ≤ q ∧ ∀ i t, p ≤ i → i < q → T[i]? = some t → t.isOp bSemi = true

/-- from p on: semicolons, and the runs of the list, and semicolons -/
def Cut (T : List Tok) (N : Nat) : Nat → List (Nat × Nat) → Prop
  | p, [] => SemiRun T p N
  | p, x :: r => SemiRun T p x.1 ∧ x.1 < x.2 ∧ x.2 ≤ N ∧ (∀ t, T[x.1]? = some t → t.isOp bSemi = false) ∧ (∀ t, T[x.2]? = some t → t.isOp bSemi = true) ∧ Cut T N x.2 r

theorem SemiRun.cons {T : List Tok} {p q : Nat} (h : SemiRun T (p + 1) q) (hp : ∀ t, T[p]? = some t → t.isOp bSemi = true) : SemiRun T p q := by
  refine ⟨by have := h.1; omega, fun i t h1 h2 h3 => ?_⟩
  by_cases e : i = p
  · subst e; exact hp t h3
  · exact h.2 i t (by omega) h2 h3

theorem Cut.cons {T : List Tok} {N p : Nat} {r : List (Nat × Nat)} (h : Cut T N (p + 1) r) (hp : ∀ t, T[p]? = some t → t.isOp bSemi = true) : Cut T N p r := by
  cases r with
  | nil => exact SemiRun.cons h hp
  | cons x r => exact ⟨SemiRun.cons h.1 hp, h.2⟩

/-- what holds of split's state at k -/
def CutI (T : List Tok) (N : Nat) (k s : Nat) (p : Int) (b : Nat) (acc : List (Nat × Nat)) : Prop :=
  s ≤ k ∧ (k ≤ N) ∧ (s < k → ∀ t, T[s]? = some t → t.isOp bSemi = false) ∧ (s = k → p ≤ 0 ∧ b = 0) ∧ ∀ rest, Cut T N s rest → Cut T N 0 (acc ++ rest)

theorem get_lt {T : List Tok} {k : Nat} {t : Tok} (h : T[k]? = some t) : k < T.length := (List.getElem?_eq_some_iff.1 h).1

/-- the state goes on where no run ends: the token is no semicolon, or the run has begun -/
theorem CutI.go {T : List Tok} {N k s : Nat} {p p' : Int} {b b' : Nat} {acc : List (Nat × Nat)} {t : Tok} (hN : T.length = N) (h : CutI T N k s p b acc) (ht : T[k]? = some t) (hns : s = k → t.isOp bSemi = false) : CutI T N (k + 1) s p' b' acc := by
  obtain ⟨h1, h2, h3, h4, h5⟩ := h
  have := get_lt ht
  refine ⟨by omega, by omega, fun _ t' ht' => ?_, fun e => by omega, h5⟩
  by_cases e : s = k
  · subst e
    rw [ht] at ht'
    cases ht'
    exact hns rfl
  · exact h3 (by omega) t' ht'

theorem cutI_inv (T : List Tok) (N : Nat) (hN : T.length = N) : SplitInv T (CutI T N) where
  start := ⟨Nat.le_refl _, Nat.zero_le _, fun h => by omega, fun _ => ⟨by omega, rfl⟩, fun rest h => h⟩
  opens k s p b acc t ht h ho := h.go hN ht (fun _ => op_no_op ho (by decide +kernel))
  closes k s p b acc t ht h _ ho := h.go hN ht (fun _ => op_no_op ho (by decide +kernel))
  more k s p b acc t ht h _ _ ho := h.go hN ht (fun _ => by
    rcases ho with ho | ho
    · exact word_no_op ho
    · exact word_no_op ho.1)
  less k s p b acc t ht h _ _ ho _ := h.go hN ht (fun _ => word_no_op ho)
  cuts k s p b acc t ht h _ _ hs hp hb hsk := by
    obtain ⟨h1, h2, h3, h4, h5⟩ := h
    have hk := get_lt ht
    have hsemi : ∀ t', T[k]? = some t' → t'.isOp bSemi = true := fun t' e => by rw [ht] at e; cases e; exact hs
    refine ⟨Nat.le_refl _, by omega, fun h => by omega, fun _ => ⟨by omega, rfl⟩, fun rest hr => ?_⟩
    rw [List.append_assoc]
    refine h5 _ ?_
    exact ⟨⟨Nat.le_refl _, fun i t a b => by omega⟩, hsk, by show k ≤ N; omega, h3 hsk, hsemi, hr.cons hsemi⟩
  skips k s p b acc t ht h _ _ hs hp hb hsk := by
    obtain ⟨h1, h2, h3, h4, h5⟩ := h
    have hk := get_lt ht
    have hsemi : ∀ t', T[k]? = some t' → t'.isOp bSemi = true := fun t' e => by rw [ht] at e; cases e; exact hs
    obtain rfl : s = k := by omega
    exact ⟨Nat.le_refl _, by omega, fun h => by omega, fun _ => ⟨by omega, rfl⟩, fun rest hr => h5 _ (hr.cons hsemi)⟩
  stays k s p b acc t ht h _ _ hs := h.go hN ht (fun e => by
    have := h.2.2.2.1 e
    cases hh : t.isOp bSemi with
    | false => rfl
    | true => exact (hs hh this.1 this.2).elim)

/-- what split leaves: the whole is cut into runs -/
theorem cut_of (T : List Tok) (N s : Nat) (p : Int) (b : Nat) (acc : List (Nat × Nat)) (hN : T.length = N) (h : CutI T N N s p b acc) : Cut T N 0 (if s < N then acc ++ [(s, N)] else acc) := by
  obtain ⟨h1, h2, h3, h4, h5⟩ := h
  by_cases hs : s < N
  · rw [if_pos hs]
    refine h5 _ ⟨⟨Nat.le_refl _, fun i t a b => by omega⟩, hs, Nat.le_refl _, h3 hs, fun t ht => ?_, ⟨Nat.le_refl _, fun i t a b => by omega⟩⟩
    have := get_lt ht
    simp only at this
    omega
  · rw [if_neg hs]
    obtain rfl : s = N := by omega
    simpa using h5 [] ⟨Nat.le_refl _, fun i t a b => by omega⟩

theorem zsplit_any (T : List Tok) (B N : Nat) (I : Nat → Nat → Int → Nat → List (Nat × Nat) → Prop) (w : World) (hN : T.length = N) (hmax : N ≤ 65536) (ht : TokSl w (some ⟨B, 0, none⟩) T) (hI : SplitInv T I) :
    Calls Try.prog 21 #[.slice (some ⟨B, 0, none⟩) N N] w fun e w' => SplitPost B N I w e w' := by
  have C : Hid _ := split_any T B N I w hN hmax ht hI
  clear hN ht hI
  go_enter Try.func21, Try.ntmps21
  go_wp2_with fail
  refine Calls.mono C.out ?_
  rintro e w' ⟨v, s, p, b, acc, rfl, h⟩
  have H : Hid _ := h
  clear h
  go_wp2
  go_ret
  exact ⟨v, s, p, b, acc, rfl, H.out⟩

/-- a row that is owned, as it is read -/
theorem own_view {w : World} {base : Nat} {e : TypeId} {v : Value} {n : Nat} {xs : List Value} (h : w.ownsRow base e 1 v n xs) : ∃ ao cap, v = .slice ao n cap ∧ ∀ k x, xs[k]? = some x → ∃ g, ao = some ⟨g, 0, none⟩ ∧ w.cell? ⟨g, k, none⟩ = some x := by
  have h0 := h
  rcases h.2 with ⟨rfl, rfl⟩ | ⟨g, cap, cur, rfl, hb, hg, r⟩
  · refine ⟨none, 0, rfl, fun k x hk => ?_⟩
    have hl := h.1
    have := (List.getElem?_eq_some_iff.1 hk).1
    omega
  · refine ⟨_, _, rfl, fun k x hk => ⟨g, rfl, ?_⟩⟩
    have := h0.cells (g := g) rfl k x hk
    rw [Addr.add_lit, Nat.zero_add] at this
    exact this

end Go.Proofs.Qxb6001401a
