/- Slices of tokens. -/
import Derived.Test.Qxb6001401aTok
set_option linter.unusedSimpArgs false
set_option linter.unusedVariables false
namespace Go.Proofs.Qxb6001401a
open Go.ChangeShapes Go.WideShapes Go.ChangeAt Go.RowKit

/-- the token t lies at ⟨b, o⟩ -/
def TokHere (w : World) (b o : Nat) (t : Tok) : Prop :=
  w.cell? ⟨b, o, none⟩ = some (.int .i64 t.kind) ∧ w.cell? ⟨b, o + 1, none⟩ = some (.string t.text) ∧ w.cell? ⟨b, o + 2, none⟩ = some (.int .i64 t.line)

/-- the tokens ts lie behind the address -/
def TokSl (w : World) (ao : Option Addr) (ts : List Tok) : Prop :=
  ∀ i t, ts[i]? = some t → ∃ b o, ao = some ⟨b, o, none⟩ ∧ TokHere w b (o + i * 3) t

theorem TokHere.below {w w' : World} {b o : Nat} {t : Tok} (h : TokHere w b o t) (hb : Below w.heap.size w w') : TokHere w' b o t := by
  have hlt : b < w.heap.size := World.block_lt_of_cell? w _ h.1
  exact ⟨(hb.cell hlt).trans h.1, (hb.cell hlt).trans h.2.1, (hb.cell hlt).trans h.2.2⟩

theorem TokSl.below {w w' : World} {ao : Option Addr} {ts : List Tok} (h : TokSl w ao ts) (hb : Below w.heap.size w w') : TokSl w' ao ts := by
  intro i t hi
  obtain ⟨b, o, e, ht⟩ := h i t hi
  exact ⟨b, o, e, ht.below hb⟩

/-- zzSameToks at two slices of the same tokens -/
theorem sameToks_self (ts : List Tok) (ao ao' : Option Addr) (n c c' : Nat) (w : World) (hn : ts.length = n) (hmax : n ≤ 1048576) (h : TokSl w ao ts) (h' : TokSl w ao' ts) :
    Calls Try.prog 26 #[.slice ao n c, .slice ao' n c'] w fun e w' => e = .returned (.bool true) ∧ Below w.heap.size w w' := by
  go_enter Try.func26, Try.ntmps26
  go_wp2
  go_loopw [5] (fun i wr => ∃ k : Nat, k ≤ n ∧ i = .int .i64 k ∧ Below w.heap.size w wr) (fun i _ => n - (intOf i).toNat)
  case atStart => exact ⟨0, Nat.zero_le _, rfl, Below.refl _ _⟩
  case round =>
    obtain ⟨k, hk, rfl, hb⟩ := hrel
    by_cases hlt : k < n
    · obtain ⟨t, ht⟩ : ∃ t, ts[k]? = some t := ⟨_, List.getElem?_eq_getElem (by omega)⟩
      obtain ⟨b, o, rfl, q⟩ := h.below hb k t ht
      obtain ⟨b', o', rfl, q'⟩ := h'.below hb k t ht
      have c0 : ∀ x : Kin wr, x.at_.cell? ⟨b, o + k * 3, none⟩ = some (.int .i64 t.kind) := fun x => x.cell q.1
      have c1 : ∀ x : Kin wr, x.at_.cell? ⟨b, o + k * 3 + 1, none⟩ = some (.string t.text) := fun x => x.cell q.2.1
      have c2 : ∀ x : Kin wr, x.at_.cell? ⟨b, o + k * 3 + 2, none⟩ = some (.int .i64 t.line) := fun x => x.cell q.2.2
      have d0 : ∀ x : Kin wr, x.at_.cell? ⟨b', o' + k * 3, none⟩ = some (.int .i64 t.kind) := fun x => x.cell q'.1
      have d1 : ∀ x : Kin wr, x.at_.cell? ⟨b', o' + k * 3 + 1, none⟩ = some (.string t.text) := fun x => x.cell q'.2.1
      have d2 : ∀ x : Kin wr, x.at_.cell? ⟨b', o' + k * 3 + 2, none⟩ = some (.int .i64 t.line) := fun x => x.cell q'.2.2
      have hlI : (k : Int) < (n : Int) := by omega
      have h0I : (0 : Int) ≤ (k : Int) := by omega
      clear h h' q q' ht hn
      go_wp2
      have hne : Nonempty (Kin wr) := ⟨⟨wr, Below.refl _ _⟩⟩
      refine wp_region_kin (by kernel_rfl) (by kernel_rfl) ?_
      repeat (go_big_quiet_step ((go_at_call 23; exact Calls.kin_of (zsame_self _ _))))
      refine wpQuiet_nil ?_
      rintro _ ⟨x, rfl⟩
      have hx : Below w.heap.size w x.at_ := hb.trans (x.holds.mono hb.size)
      clear c0 c1 c2 d0 d1 d2 hne
      go_wp2
      go_roundw
      case rel => exact ⟨k + 1, by omega, by go_num, hx⟩
      case measure => simp [intOf]; omega
    · go_wp2
      go_ret
      exact ⟨rfl, hb⟩

end Go.Proofs.Qxb6001401a
