import Derived.Test.Qxb6001401aRows
import Derived.WalkKit
import Derived.ProofKit
import Derived.OpenShut
import Derived.ShutString
import Derived.Test.Qxb6001401aLawB
import Derived.Test.Qxb6001401aFacts
namespace Go.Proofs.Qxb6001401a.fnSkipQuotedFindsTheEndOfAnEncodedBody
open Go.ChangeShapes Go.WideShapes Go.ChangeAt Go.RowKit
open Go.ChangeMaps (open_string shut_string)
set_option linter.unusedVariables false

theorem own : ownKnob Try.prog.godebug = none := by kernel_rfl

theorem walk (a0 : ByteArray) (a1 : ByteArray) (a2 : ByteArray) (a3 : Int) (a4 : Bool) (a5 : Int) (w0 : a0.size ≤ maxLen) (w1 : a1.size ≤ maxLen) (w2 : a2.size ≤ maxLen) (w3 : (Lit.int .u8 a3).wf = true) (w5 : (Lit.int .i64 a5).wf = true) (w : World) :
    Calls Try.prog 4 #[.string a0, .string a1, .string a2, .int .u8 a3, .bool a4, .int .i64 a5] w fun e w' => e = .returned (.bool true) ∧ Below w.heap.size w w' := by
  by_cases h : a0.size + a1.size + a2.size ≤ 1048576
  · by_cases h2 : 262144 < a0.size ∨ 262144 < a1.size ∨ 262144 < a2.size
    · exact lawB_big a0 a1 a2 a3 a4 a5 w h h2
    · by_cases hq : a3 = 10 ∨ a3 = 92
      · exact lawB_odd a0 a1 a2 a3 a4 a5 w h (by omega) (by omega) (by omega) hq
      · obtain ⟨q, rfl⟩ := byte_ofB a3 w3
        have q1 : ((q.toNat : Int) == 10) = false := by rw [beq_eq_false_iff_ne]; omega
        have q2 : ((q.toNat : Int) == 92) = false := by rw [beq_eq_false_iff_ne]; omega
        by_cases ht : 0 < a2.size
        · by_cases htq : ((a2[0].toNat : Int) == (q.toNat : Int)) = true
          · exact lawB_tail a0 a1 a2 q a4 a5 w h (by omega) (by omega) (by omega) q1 q2 ht htq
          · exact lawB_main a0 a1 a2 q a4 a5 w h (by omega) (by omega) (by omega) w5 q1 q2 (.inr ⟨ht, by simpa using htq⟩)
        · exact lawB_main a0 a1 a2 q a4 a5 w h (by omega) (by omega) (by omega) w5 q1 q2 (.inl (by omega))
  · exact lawB_long a0 a1 a2 a3 a4 a5 w w0 w1 w2 h

set_option maxRecDepth 100000 in
theorem lifted (os : Os) (started : os.Started) (H : Type) (enc : TypeId × Value → H) :
    ReturnsInHanded {} Try.checked os 4 .any (Rows.fnSkipQuotedFindsTheEndOfAnEncodedBodySpec.pre6 enc Try.prog Try.f4 Rows.fnSkipQuotedFindsTheEndOfAnEncodedBodyRow.domain false) (Rows.fnSkipQuotedFindsTheEndOfAnEncodedBodySpec.post enc Try.prog Try.f4 false true false false) := by
  refine returnsInHanded_of_change (C := Try.checked) own started (by kernel_rfl) Try.func4
    (ChangeSpec.witness6 (enc := enc) (C := Try.checked) false ⟨#[], #[.string ByteArray.empty, .string ByteArray.empty, .string ByteArray.empty, .int .u8 0, .bool false, .int .i64 0], []⟩ 8 (by kernel_rfl) (by kernel_rfl) (by kernel_rfl) (by kernel_rfl)) ?_
  intro W base args ds gs before hval0 hW hcnd _
  have hval : ∀ (j : Nat) t v, Try.f4.params[j]? = some t → args[j]? = some v → Value.okWide Try.prog W .any base t v := hval0
  have hW' := hW
  obtain ⟨p, q, hA0, hV, rfl, hfz, hnd⟩ := hW
  have hA : DataW.TrodAll enc Try.prog W 0 (fun _ => true) true Try.f4.params.toList args.toList ds p := hA0
  rw [Try.params4] at hA hval
  obtain ⟨v0, vs0, d0, ds0, p0, q0, hargs, rfl, rfl, h0, r0⟩ := trodAll_cons hA
  obtain ⟨v1, vs1, d1, ds1, p1, q1, rfl, rfl, rfl, h1, r1⟩ := trodAll_cons r0
  obtain ⟨v2, vs2, d2, ds2, p2, q2, rfl, rfl, rfl, h2, r2⟩ := trodAll_cons r1
  obtain ⟨v3, vs3, d3, ds3, p3, q3, rfl, rfl, rfl, h3, r3⟩ := trodAll_cons r2
  obtain ⟨v4, vs4, d4, ds4, p4, q4, rfl, rfl, rfl, h4, r4⟩ := trodAll_cons r3
  obtain ⟨v5, vs5, d5, ds5, p5, q5, rfl, rfl, rfl, h5, r5⟩ := trodAll_cons r4
  obtain ⟨rfl, rfl, rfl⟩ := trodAll_nil r5
  obtain rfl : args = #[v0, v1, v2, v3, v4, v5] := by cases args; simp_all
  obtain ⟨rfl, rfl⟩ := trodVars_none hV
  obtain ⟨a0, rfl, rfl, rfl, w0⟩ := open_string Try.underlying9 (hval 0 9 v0 rfl rfl) h0
  obtain ⟨a1, rfl, rfl, rfl, w1⟩ := open_string Try.underlying9 (hval 1 9 v1 rfl rfl) h1
  obtain ⟨a2, rfl, rfl, rfl, w2⟩ := open_string Try.underlying9 (hval 2 9 v2 rfl rfl) h2
  obtain ⟨a3, rfl, rfl, rfl, w3⟩ := open_int Try.underlying5 (hval 3 5 v3 rfl rfl) h3
  obtain ⟨a4, rfl, rfl, rfl⟩ := open_bool Try.underlying4 (hval 4 4 v4 rfl rfl) h4
  obtain ⟨a5, rfl, rfl, rfl, w5⟩ := open_int Try.underlying3 (hval 5 3 v5 rfl rfl) h5
  clear hA0 hval0
  simp only [List.append_nil] at hW'
  refine (walk a0 a1 a2 a3 a4 a5 w0 w1 w2 w3 w5 W).mono fun e W' ⟨he, hg⟩ => ?_
  subst he
  exact ⟨_, rfl, _, _, _, [], [], [], hW', (trodAll_cons_mk (shut_bool Try.underlying4 _) trodAll_mk0), (trodAll_cons_mk (shut_string Try.underlying9 w0) (trodAll_cons_mk (shut_string Try.underlying9 w1) (trodAll_cons_mk (shut_string Try.underlying9 w2) (trodAll_cons_mk (shut_int Try.underlying5 w3) (trodAll_cons_mk (shut_bool Try.underlying4 _) (trodAll_cons_mk (shut_int Try.underlying3 w5) trodAll_mk0)))))), rfl, hg.frame _, fun h => by cases h⟩

theorem closed : joinedFacts Try.checked.prog 4 Try.f4 Rows.fnSkipQuotedFindsTheEndOfAnEncodedBodySpec Rows.fnSkipQuotedFindsTheEndOfAnEncodedBodyRow = true :=
  joined_mk (by as_aux_lemma => kernel_rfl) fact2 fact3 (by as_aux_lemma => kernel_rfl) (by as_aux_lemma => kernel_rfl) (by as_aux_lemma => kernel_rfl) fact7 (by as_aux_lemma => kernel_rfl) fact9
    (by as_aux_lemma => kernel_rfl) (by as_aux_lemma => kernel_rfl) (by as_aux_lemma => kernel_rfl) (by as_aux_lemma => kernel_rfl)
    (by as_aux_lemma => kernel_rfl) (by as_aux_lemma => kernel_rfl) (by as_aux_lemma => kernel_rfl) (by as_aux_lemma => kernel_rfl)
    (by as_aux_lemma => kernel_rfl) (by as_aux_lemma => kernel_rfl) (by as_aux_lemma => kernel_rfl) (by as_aux_lemma => kernel_rfl) (by as_aux_lemma => kernel_rfl) fact23 (by as_aux_lemma => kernel_rfl) fact25 fact26 fact27 fact28
    ⟨rfl, rfl⟩ (by as_aux_lemma => kernel_rfl) (by as_aux_lemma => kernel_rfl) (by as_aux_lemma => kernel_rfl)

theorem over : Rows.fnSkipQuotedFindsTheEndOfAnEncodedBodyRow.holds Try.pinned (OpenSpec.ofChange Rows.fnSkipQuotedFindsTheEndOfAnEncodedBodySpec) :=
  OpenClaim.holds_of_wide 4 Try.f4 rfl rfl rfl rfl rfl rfl rfl ⟨rfl, rfl, rfl, rfl, rfl⟩ rfl rfl rfl rfl rfl (by as_aux_lemma => kernel_rfl) Try.func4 closed
    (of_decide_eq_true (by as_aux_lemma => kernel_rfl)) (by unfold Func.isWrapper; first | (rw [if_pos (by decide +kernel)]; kernel_rfl) | (rw [if_neg (by decide +kernel)]; exact ⟨rfl, rfl⟩))
    (fun os started H enc _ => lifted os started H enc)

theorem proved : Rows.FnSkipQuotedFindsTheEndOfAnEncodedBodySaid :=
  over
end Go.Proofs.Qxb6001401a.fnSkipQuotedFindsTheEndOfAnEncodedBody

namespace Go.Proofs.Qxb6001401a
theorem fnSkipQuotedFindsTheEndOfAnEncodedBody_holds : Rows.FnSkipQuotedFindsTheEndOfAnEncodedBodySaid := fnSkipQuotedFindsTheEndOfAnEncodedBody.proved
end Go.Proofs.Qxb6001401a
