/- The closed facts of the rows, one by one. Three of them read the head of the translation, a text of a thousand signs: taken whole it outgrows the memory's lid; here its head alone is laid open. -/
import Derived.Test.Qxb6001401aRows
import Derived.ProofKit
set_option linter.unusedSimpArgs false
set_option linter.unusedVariables false
namespace Go.Proofs.Qxb6001401a

theorem joined_mk {P : Program} {f : FuncId} {fn : Func} {s : ChangeSpec} {c : OpenClaim}
    (k1 : c.wf (OpenSpec.ofChange s) = true) (k2 : laidOutB P = true) (k3 : mapsRowed P = true) (k4 : fn.params.all (P.readableRec ·) = true) (k5 : namedTie P c.named s.vars = true)
    (k6 : (c.stops == []) = true) (k7 : (P.stops == []) = true) (k8 : (c.knobs == []) = true) (k9 : (P.stopKnobs == []) = true)
    (k10 : (c.inPlace == P.inPlace f) = true) (k11 : (c.unfollowed == P.unfollowed f) = true) (k12 : (c.recurses == P.recurses f) = true) (k13 : (c.named == P.varsNamed f) = true)
    (k14 : (c.maps == (fn.params.toList ++ s.plain.varTypes P).any (P.mapsRec ·)) = true) (k15 : (c.ifaces == (fn.params.toList ++ s.plain.varTypes P).any (P.ifacesRec ·)) = true) (k16 : (c.mapsOut == P.mapsAmong fn.resultTypes.toList) = true)
    (k17 : (c.loops == (fn.params.toList ++ s.plain.varTypes P).any (P.loopsFrom ·)) = true) (k18 : (c.wideKeys == (fn.params.toList ++ s.plain.varTypes P ++ fn.resultTypes.toList).any (P.wideKeysFrom ·)) = true)
    (k19 : s.vars.all (P.varReadable ·) = true) (k20 : fn.resultTypes.all (fun t => P.readableRec t && decide (t < P.types.size)) = true) (k21 : (c.ifacesOut == fn.resultTypes.toList.any (P.ifacesRec ·)) = true) (k22 : (c.loopsOut == fn.resultTypes.toList.any (P.loopsFrom ·)) = true)
    (k23 : (c.plainKeys == P.plainKeys) = true) (k24 : c.shortTexts.isNone = true) (k25 : P.stopsHeard = true) (k26 : P.mayEnter = true) (k27 : (c.lifted == P.liftsFinal) = true) (k28 : (P.make == some c.make) = true)
    (k29 : c.kinds = [] ∧ c.domain = []) (k30 : (c.pinned == c.pinnedBy) = true)
    (k31 : (c.veiled == (fn.params.toList ++ s.plain.varTypes P ++ fn.resultTypes.toList).any (P.veiledRec ·)) = true) (k32 : c.veiledFits P fn.params.toList (fn.params.toList ++ s.plain.varTypes P ++ fn.resultTypes.toList) = true) :
    joinedFacts P f fn s c = true := by
  unfold joinedFacts
  rw [k1, k2, k3, k4, k5, k6, k7, k8, k9, k10, k11, k12, k13, k14, k15, k16, k17, k18, k19, k20, k21, k22, k23, k24, k25, k26, k27, k28, k29.1, k29.2, k30, k31, k32]
  rfl

set_option maxRecDepth 100000 in
theorem head_is : ∃ r : List Char, Try.prog.initOrder = String.ofList ('h' :: 'a' :: 'r' :: 'n' :: 'e' :: 's' :: 's' :: ' ' :: '9' :: 'f' :: '7' :: '6' :: '8' :: '8' :: 'a' :: '5' :: 'd' :: 'd' :: '9' :: '2' :: '2' :: '5' :: '4' :: '8' :: 'c' :: '1' :: '5' :: 'd' :: 'a' :: '3' :: 'c' :: '7' :: 'f' :: '8' :: 'e' :: '0' :: '6' :: '4' :: '5' :: '3' :: '4' :: 'd' :: '5' :: '5' :: '4' :: 'd' :: '1' :: 'e' :: 'f' :: 'b' :: '2' :: 'a' :: 'f' :: 'a' :: 'a' :: '4' :: '7' :: '2' :: '2' :: 'a' :: '3' :: '2' :: 'a' :: '9' :: '8' :: 'd' :: '3' :: '0' :: '7' :: '1' :: '4' :: '6' :: ' ' :: 'c' :: 'u' :: 't' :: ' ' :: r) := ⟨_, rfl⟩

theorem head_words (r : List Char) : behindMainWord (wordsSigns ('h' :: 'a' :: 'r' :: 'n' :: 'e' :: 's' :: 's' :: ' ' :: '9' :: 'f' :: '7' :: '6' :: '8' :: '8' :: 'a' :: '5' :: 'd' :: 'd' :: '9' :: '2' :: '2' :: '5' :: '4' :: '8' :: 'c' :: '1' :: '5' :: 'd' :: 'a' :: '3' :: 'c' :: '7' :: 'f' :: '8' :: 'e' :: '0' :: '6' :: '4' :: '5' :: '3' :: '4' :: 'd' :: '5' :: '5' :: '4' :: 'd' :: '1' :: 'e' :: 'f' :: 'b' :: '2' :: 'a' :: 'f' :: 'a' :: 'a' :: '4' :: '7' :: '2' :: '2' :: 'a' :: '3' :: '2' :: 'a' :: '9' :: '8' :: 'd' :: '3' :: '0' :: '7' :: '1' :: '4' :: '6' :: ' ' :: 'c' :: 'u' :: 't' :: ' ' :: r)) = ['c', 'u', 't'] :: wordsSigns r := by kernel_rfl

theorem head_cut : ∃ ws : List (List Char), behindMainWord (wordsSigns Try.checked.prog.initOrder.toList) = ['c', 'u', 't'] :: ws := by
  obtain ⟨r, hr⟩ := head_is
  have e : Try.checked.prog.initOrder = Try.prog.initOrder := rfl
  rw [e, hr, String.toList_ofList, head_words]
  exact ⟨_, rfl⟩

/-- the facts that speak of the program alone -/
theorem fact2 : laidOutB Try.checked.prog = true := by kernel_rfl
theorem fact3 : mapsRowed Try.checked.prog = true := by kernel_rfl
theorem fact7 : (Try.checked.prog.stops == []) = true := by kernel_rfl
theorem fact9 : (Try.checked.prog.stopKnobs == []) = true := by kernel_rfl
theorem fact23 : (true == Try.checked.prog.plainKeys) = true := by kernel_rfl
theorem fact25 : Try.checked.prog.stopsHeard = true := by kernel_rfl

theorem strip_cut (ws : List (List Char)) : stripLifts liftWords (['c', 'u', 't'] :: ws) = ([], ['c', 'u', 't'] :: ws) := by kernel_rfl
theorem later_no : Try.checked.prog.laysLater = false := by kernel_rfl
theorem reflect_no : Try.checked.prog.bearsReflect = false := by kernel_rfl
theorem door_fits : Try.checked.prog.doorFits [] = true := by kernel_rfl

theorem mayEnter_of {P : Program} {ws : List (List Char)} (h : behindMainWord (wordsSigns P.initOrder.toList) = ['c', 'u', 't'] :: ws) (h1 : P.laysLater = false) (h2 : P.bearsReflect = false) (h3 : P.doorFits [] = true) : P.mayEnter = true := by
  unfold Program.mayEnter
  rw [h]
  simp only [strip_cut, h1, h2, h3]
  simp
theorem liftsFinal_of {P : Program} {ws : List (List Char)} (h : behindMainWord (wordsSigns P.initOrder.toList) = ['c', 'u', 't'] :: ws) : P.liftsFinal = false := by
  unfold Program.liftsFinal
  rw [h]
  unfold Program.headLifts
  rw [h]
  simp [strip_cut]
theorem make_of {P : Program} {ws : List (List Char)} (h : behindMainWord (wordsSigns P.initOrder.toList) = ['c', 'u', 't'] :: ws) : P.make = some Make.cut := by
  unfold Program.make
  rw [h]
  simp

theorem fact26 : Try.checked.prog.mayEnter = true := Exists.elim head_cut fun _ h => mayEnter_of h later_no reflect_no door_fits
theorem fact27 : (false == Try.checked.prog.liftsFinal) = true := by
  rw [Exists.elim head_cut fun _ h => liftsFinal_of h]; rfl
theorem fact28 : (Try.checked.prog.make == some Make.cut) = true := by
  rw [Exists.elim head_cut fun _ h => make_of h]; rfl

end Go.Proofs.Qxb6001401a
