/- The row of FnConjunctsWithoutBracketsOrBetweenCutAtEveryAnd. -/
import Derived.Test.Qxb6001401aLawF
import Derived.Test.Qxb6001401aArgs
import Derived.ShutString
import Derived.Test.Qxb6001401aFacts
set_option linter.unusedSimpArgs false
set_option linter.unusedVariables false
namespace Go.Proofs.Qxb6001401a.fnConjunctsWithoutBracketsOrBetweenCutAtEveryAnd
open Go.ChangeShapes Go.WideShapes Go.ChangeAt Go.RowKit

theorem walk (zs : List Int) (ss : List ByteArray) (ka ta : Option Addr) (kl tl kc tc : Nat) (w : World) (hzl : zs.length = kl) (htl : ss.length = tl) (hk1 : kl ≤ maxLen) (hk2 : tl ≤ maxLen) (hk : IntSl w ka zs) (ht : StrSl w ta ss) :
    Calls Try.prog 9 #[.slice ka kl kc, .slice ta tl tc] w fun e w' => e = .returned (.bool true) ∧ Below w.heap.size w w' := by
  by_cases h : kl + tl + tot ss ≤ 1048576
  · by_cases h2 : 65536 < kl ∨ 65536 < tl
    · exact lawF_many zs ss ka ta kl tl kc tc w htl hk1 hk2 ht h h2
    · by_cases h3 : 1048576 < 8 * kl + 16 * tl + tot ss
      · exact lawF_big zs ss ka ta kl tl kc tc w htl hk1 hk2 ht h (by omega) (by omega) h3
      · exact lawF_main zs ss ka ta kl tl kc tc w hzl htl hk ht h (by omega) (by omega) h3
  · exact lawF_long zs ss ka ta kl tl kc tc w htl hk1 hk2 ht h

set_option maxHeartbeats 1600000 in
set_option maxRecDepth 100000 in
theorem lifted (os : Os) (started : os.Started) (H : Type) (enc : TypeId × Value → H) :
    ReturnsInHanded {} Try.checked os 9 .any (Rows.fnConjunctsWithoutBracketsOrBetweenCutAtEveryAndSpec.pre6 enc Try.prog Try.f9 Rows.fnConjunctsWithoutBracketsOrBetweenCutAtEveryAndRow.domain false) (Rows.fnConjunctsWithoutBracketsOrBetweenCutAtEveryAndSpec.post enc Try.prog Try.f9 false true false false) := by
  refine returnsInHanded_of_change (C := Try.checked) Try.own' started (by kernel_rfl) Try.func9
    (ChangeSpec.witness6 (enc := enc) (C := Try.checked) false ⟨#[], #[.slice none 0 0, .slice none 0 0], []⟩ 8 (by kernel_rfl) (by kernel_rfl) (by kernel_rfl) (by kernel_rfl)) ?_
  intro W base args ds gs before hval0 hW hcnd _
  have hval : ∀ (j : Nat) t v, Try.f9.params[j]? = some t → args[j]? = some v → Value.okWide Try.prog W .any base t v := hval0
  have hW' := hW
  obtain ⟨p, q, hA0, hV, rfl, hfz, hnd⟩ := hW
  have hA : DataW.TrodAll enc Try.prog W 0 (fun _ => true) true Try.f9.params.toList args.toList ds p := hA0
  rw [Try.params9] at hA hval
  obtain ⟨v0, vs0, d0, ds0, p0, q0, hargs, rfl, rfl, h0, r0⟩ := trodAll_cons hA
  obtain ⟨v1, vs1, d1, ds1, p1, q1, rfl, rfl, rfl, h1, r1⟩ := trodAll_cons r0
  obtain ⟨rfl, rfl, rfl⟩ := trodAll_nil r1
  obtain rfl : args = #[v0, v1] := by cases args; simp_all
  obtain ⟨rfl, rfl⟩ := trodVars_none hV
  obtain ⟨ka, kl, kc, zs, rfl, hzl, hk1, hk⟩ := open_kinds (hval 0 31 v0 rfl rfl) h0
  obtain ⟨ta, tl, tc, ss, rfl, htl, hk2, ht⟩ := open_texts (hval 1 32 v1 rfl rfl) h1
  clear hA0 hval0
  simp only [List.append_nil] at hW'
  have hlt : ∀ x ∈ p0 ++ p1, x.block < W.heap.size := fun x hx => by simpa using hW'.lt x hx
  refine (walk zs ss ka ta kl tl kc tc W hzl htl hk1 hk2 hk ht).mono fun e W' ⟨he, hg⟩ => ?_
  subst he
  exact ⟨_, rfl, _, _, _, [], p0 ++ (p1 ++ []), [], hW', trodAll_cons_mk (shut_bool Try.underlying4 _) trodAll_mk0,
    trodAll_cons_mk (Below.trod Try.laidOut (by kernel_rfl) (of_decide_eq_true (by kernel_rfl)) h0 hg (fun x hx => hlt x (by simp [hx]))) (trodAll_cons_mk (Below.trod Try.laidOut (by kernel_rfl) (of_decide_eq_true (by kernel_rfl)) h1 hg (fun x hx => hlt x (by simp [hx]))) trodAll_mk0),
    rfl, hg.frame _, fun h => by cases h⟩

theorem closed : joinedFacts Try.checked.prog 9 Try.f9 Rows.fnConjunctsWithoutBracketsOrBetweenCutAtEveryAndSpec Rows.fnConjunctsWithoutBracketsOrBetweenCutAtEveryAndRow = true :=
  joined_mk (by as_aux_lemma => kernel_rfl) fact2 fact3 (by as_aux_lemma => kernel_rfl) (by as_aux_lemma => kernel_rfl) (by as_aux_lemma => kernel_rfl) fact7 (by as_aux_lemma => kernel_rfl) fact9
    (by as_aux_lemma => kernel_rfl) (by as_aux_lemma => kernel_rfl) (by as_aux_lemma => kernel_rfl) (by as_aux_lemma => kernel_rfl)
    (by as_aux_lemma => kernel_rfl) (by as_aux_lemma => kernel_rfl) (by as_aux_lemma => kernel_rfl) (by as_aux_lemma => kernel_rfl)
    (by as_aux_lemma => kernel_rfl) (by as_aux_lemma => kernel_rfl) (by as_aux_lemma => kernel_rfl) (by as_aux_lemma => kernel_rfl) (by as_aux_lemma => kernel_rfl) fact23 (by as_aux_lemma => kernel_rfl) fact25 fact26 fact27 fact28
    ⟨rfl, rfl⟩ (by as_aux_lemma => kernel_rfl) (by as_aux_lemma => kernel_rfl) (by as_aux_lemma => kernel_rfl)

theorem over : Rows.fnConjunctsWithoutBracketsOrBetweenCutAtEveryAndRow.holds Try.pinned (OpenSpec.ofChange Rows.fnConjunctsWithoutBracketsOrBetweenCutAtEveryAndSpec) :=
  OpenClaim.holds_of_wide 9 Try.f9 rfl rfl rfl rfl rfl rfl rfl ⟨rfl, rfl, rfl, rfl, rfl⟩ rfl rfl rfl rfl rfl (by as_aux_lemma => kernel_rfl) Try.func9 closed
    (of_decide_eq_true (by as_aux_lemma => kernel_rfl)) (by unfold Func.isWrapper; first | (rw [if_pos (by decide +kernel)]; kernel_rfl) | (rw [if_neg (by decide +kernel)]; exact ⟨rfl, rfl⟩))
    (fun os started H enc _ => lifted os started H enc)

theorem proved : Rows.FnConjunctsWithoutBracketsOrBetweenCutAtEveryAndSaid :=
  over

end Go.Proofs.Qxb6001401a.fnConjunctsWithoutBracketsOrBetweenCutAtEveryAnd

namespace Go.Proofs.Qxb6001401a
theorem fnConjunctsWithoutBracketsOrBetweenCutAtEveryAnd_holds : Rows.FnConjunctsWithoutBracketsOrBetweenCutAtEveryAndSaid := fnConjunctsWithoutBracketsOrBetweenCutAtEveryAnd.proved
end Go.Proofs.Qxb6001401a
