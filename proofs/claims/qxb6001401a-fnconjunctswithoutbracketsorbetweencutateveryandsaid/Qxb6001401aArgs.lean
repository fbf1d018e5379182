/- The two arguments of a law over tokens: how they are read, and that they read so behind the call. -/
import Derived.Test.Qxb6001401aFacts
import Derived.Test.Qxb6001401aSizes
import Derived.OpenShut
import Derived.SliceStrings
import Derived.ShutString
set_option linter.unusedSimpArgs false
set_option linter.unusedVariables false
namespace Go.Proofs.Qxb6001401a
open Go.ChangeShapes Go.WideShapes Go.ChangeAt Go.RowKit

theorem Try.cells3 : Try.prog.cellsOf 3 = 1 := by kernel_rfl
theorem Try.cells9 : Try.prog.cellsOf 9 = 1 := by kernel_rfl
theorem Try.own' : ownKnob Try.prog.godebug = none := by kernel_rfl
theorem Try.laidOut : laidOutB Try.prog = true := by kernel_rfl

section
variable {H : Type} {enc : TypeId × Value → H} {W : World} {v : Value} {d : DataW H} {p : List MemPlace} {base : Nat}

theorem open_kinds (hv : Value.okWide Try.prog W .any base 31 v) (h : DataW.Trod enc Try.prog W 0 (fun _ => true) true 31 v d p) :
    ∃ (ka : Option Addr) (kl kc : Nat) (zs : List Int), v = .slice ka kl kc ∧ zs.length = kl ∧ kl ≤ maxLen ∧ IntSl W ka zs := by
  obtain ⟨a0, len, cap, rfl⟩ := okWide_slice Try.underlying31 hv
  obtain ⟨fuel, hf⟩ := h
  rcases open_ints Try.underlying31 Try.underlying3 Try.cells3 hf with ⟨hcs, hx⟩ | ⟨a, len', cap', zs, hcs, _, hl, hm, hz, hx, hcell, hwz⟩
  · simp [Value.cells] at hcs
    obtain ⟨rfl, rfl, rfl⟩ := hcs
    exact ⟨none, 0, 0, [], rfl, rfl, Nat.zero_le _, fun i z hi => by simp at hi⟩
  · simp [Value.cells] at hcs
    obtain ⟨rfl, rfl, rfl⟩ := hcs
    simp only [if_true] at hz
    refine ⟨some a, len, cap, zs.take len, rfl, by simp; omega, Nat.le_trans hl hm, fun i z hi => ?_⟩
    rw [List.getElem?_take] at hi
    by_cases hil : i < len
    · rw [if_pos hil] at hi
      have hc := hcell i (by omega)
      obtain ⟨b, off, spot⟩ := a
      have hspot : spot = none := by simpa [Addr.add] using World.cell?_spot (hcell 0 (by omega))
      subst hspot
      refine ⟨b, off, rfl, ?_⟩
      rw [← add_plain, hc]
      simp [List.getD, hi]
    · rw [if_neg hil] at hi; cases hi

theorem open_texts (hv : Value.okWide Try.prog W .any base 32 v) (h : DataW.Trod enc Try.prog W 0 (fun _ => true) true 32 v d p) :
    ∃ (ta : Option Addr) (tl tc : Nat) (ss : List ByteArray), v = .slice ta tl tc ∧ ss.length = tl ∧ tl ≤ maxLen ∧ StrSl W ta ss := by
  obtain ⟨a0, len, cap, rfl⟩ := okWide_slice Try.underlying32 hv
  obtain ⟨fuel, hf⟩ := h
  rcases open_strings Try.underlying32 Try.underlying9 Try.cells9 hf with ⟨hcs, hx⟩ | ⟨a, len', cap', ss, hcs, _, hl, hm, hz, hx, hcell, hws⟩
  · simp [Value.cells] at hcs
    obtain ⟨rfl, rfl, rfl⟩ := hcs
    exact ⟨none, 0, 0, [], rfl, rfl, Nat.zero_le _, fun i z hi => by simp at hi⟩
  · simp [Value.cells] at hcs
    obtain ⟨rfl, rfl, rfl⟩ := hcs
    simp only [if_true] at hz
    refine ⟨some a, len, cap, ss.take len, rfl, by simp; omega, Nat.le_trans hl hm, fun i z hi => ?_⟩
    rw [List.getElem?_take] at hi
    by_cases hil : i < len
    · rw [if_pos hil] at hi
      have hc := hcell i (by omega)
      obtain ⟨b, off, spot⟩ := a
      have hspot : spot = none := by simpa [Addr.add] using World.cell?_spot (hcell 0 (by omega))
      subst hspot
      refine ⟨b, off, rfl, ?_⟩
      rw [← add_plain, hc]
      simp [List.getD, hi]
    · rw [if_neg hil] at hi; cases hi
end

end Go.Proofs.Qxb6001401a
