/- Tokens: as values, and the small functions on them. -/
import Derived.Test.Qxb6001401aRows
import Derived.WalkKit
import Derived.ProofKit
import Derived.WalkSpells
import Derived.Deep.QuietTactic
import Derived.BigQuiet
set_option linter.unusedSimpArgs false
set_option linter.unusedVariables false
namespace Go.Proofs.Qxb6001401a
open Go.ChangeShapes Go.WideShapes Go.ChangeAt Go.RowKit

structure Tok where
  kind : Int
  text : ByteArray
  line : Int

/-- the token is the operator o -/
def Tok.isOp (t : Tok) (o : ByteArray) : Bool := t.kind == 5 && t.text.toList == o.toList
/-- the token is the word o -/
def Tok.isWord (t : Tok) (o : ByteArray) : Bool := t.kind == 0 && t.text.toList == o.toList

theorem ret_bool {a b : Bool} (h : a = b) : Ending.returned (.bool a) = .returned (.bool b) := by rw [h]

theorem isOp_no {t : Tok} {o : ByteArray} (h : (t.kind == 5) = false) : t.isOp o = false := by unfold Tok.isOp; rw [h]; rfl
theorem isOp_yes {t : Tok} {o : ByteArray} (h : (t.kind == 5) = true) : t.isOp o = (t.text.toList == o.toList) := by unfold Tok.isOp; rw [h]; rfl
theorem isWord_no {t : Tok} {o : ByteArray} (h : (t.kind == 0) = false) : t.isWord o = false := by unfold Tok.isWord; rw [h]; rfl
theorem isWord_yes {t : Tok} {o : ByteArray} (h : (t.kind == 0) = true) : t.isWord o = (t.text.toList == o.toList) := by unfold Tok.isWord; rw [h]; rfl

theorem isOp_any (t : Tok) (o : ByteArray) (w : World) :
    Calls Try.prog 44 #[.agg #[.int .i64 t.kind, .string t.text, .int .i64 t.line], .string o] w fun e w' => e = .returned (.bool (t.isOp o)) ∧ Below w.heap.size w w' := by
  by_cases h : (t.kind == 5) = true
  · have H : Hid _ := isOp_yes (o := o) h
    go_enter Try.func44, Try.ntmps44
    go_wp2
    go_ret
    exact ⟨ret_bool H.out.symm, (Below.refl _ _).alloc (Nat.le_refl _) _⟩
  · simp only [Bool.not_eq_true] at h
    have H : Hid _ := isOp_no (o := o) h
    go_enter Try.func44, Try.ntmps44
    go_wp2
    go_ret
    exact ⟨ret_bool H.out.symm, (Below.refl _ _).alloc (Nat.le_refl _) _⟩

theorem is_any (t : Tok) (o : ByteArray) (w : World) :
    Calls Try.prog 45 #[.agg #[.int .i64 t.kind, .string t.text, .int .i64 t.line], .string o] w fun e w' => e = .returned (.bool (t.isWord o)) ∧ Below w.heap.size w w' := by
  by_cases h : (t.kind == 0) = true
  · have H : Hid _ := isWord_yes (o := o) h
    go_enter Try.func45, Try.ntmps45
    go_wp2
    go_ret
    exact ⟨ret_bool H.out.symm, (Below.refl _ _).alloc (Nat.le_refl _) _⟩
  · simp only [Bool.not_eq_true] at h
    have H : Hid _ := isWord_no (o := o) h
    go_enter Try.func45, Try.ntmps45
    go_wp2
    go_ret
    exact ⟨ret_bool H.out.symm, (Below.refl _ _).alloc (Nat.le_refl _) _⟩

theorem zkind_any (t : Tok) (w : World) :
    Calls Try.prog 40 #[.agg #[.int .i64 t.kind, .string t.text, .int .i64 t.line]] w fun e w' => e = .returned (.int .i64 t.kind) ∧ Below w.heap.size w w' := by
  go_enter Try.func40, Try.ntmps40
  go_wp2
  go_ret
  exact ⟨rfl, (Below.refl _ _).alloc (Nat.le_refl _) _⟩

theorem ztext_any (t : Tok) (w : World) :
    Calls Try.prog 41 #[.agg #[.int .i64 t.kind, .string t.text, .int .i64 t.line]] w fun e w' => e = .returned (.string t.text) ∧ Below w.heap.size w w' := by
  go_enter Try.func41, Try.ntmps41
  go_wp2
  go_ret
  exact ⟨rfl, (Below.refl _ _).alloc (Nat.le_refl _) _⟩

theorem zline_any (t : Tok) (w : World) :
    Calls Try.prog 42 #[.agg #[.int .i64 t.kind, .string t.text, .int .i64 t.line]] w fun e w' => e = .returned (.int .i64 t.line) ∧ Below w.heap.size w w' := by
  go_enter Try.func42, Try.ntmps42
  go_wp2
  go_ret
  exact ⟨rfl, (Below.refl _ _).alloc (Nat.le_refl _) _⟩

theorem zisOp_any (t : Tok) (o : ByteArray) (w : World) :
    Calls Try.prog 22 #[.agg #[.int .i64 t.kind, .string t.text, .int .i64 t.line], .string o] w fun e w' => e = .returned (.bool (t.isOp o)) ∧ Below w.heap.size w w' := by
  by_cases h : (t.kind == 5) = true
  · have H : Hid _ := isOp_yes (o := o) h
    go_enter Try.func22, Try.ntmps22
    go_wp2
    go_ret
    exact ⟨ret_bool H.out.symm, (((Below.refl _ _).alloc (Nat.le_refl _) _).alloc (by simp) _).alloc (by simp; omega) _⟩
  · simp only [Bool.not_eq_true] at h
    have H : Hid _ := isOp_no (o := o) h
    go_enter Try.func22, Try.ntmps22
    go_wp2
    go_ret
    exact ⟨ret_bool H.out.symm, ((Below.refl _ _).alloc (Nat.le_refl _) _).alloc (by simp) _⟩

theorem zisWord_any (t : Tok) (o : ByteArray) (w : World) :
    Calls Try.prog 25 #[.agg #[.int .i64 t.kind, .string t.text, .int .i64 t.line], .string o] w fun e w' => e = .returned (.bool (t.isWord o)) ∧ Below w.heap.size w w' := by
  by_cases h : (t.kind == 0) = true
  · have H : Hid _ := isWord_yes (o := o) h
    go_enter Try.func25, Try.ntmps25
    go_wp2
    go_ret
    exact ⟨ret_bool H.out.symm, (((Below.refl _ _).alloc (Nat.le_refl _) _).alloc (by simp) _).alloc (by simp; omega) _⟩
  · simp only [Bool.not_eq_true] at h
    have H : Hid _ := isWord_no (o := o) h
    go_enter Try.func25, Try.ntmps25
    go_wp2
    go_ret
    exact ⟨ret_bool H.out.symm, ((Below.refl _ _).alloc (Nat.le_refl _) _).alloc (by simp) _⟩

/-- the worlds that hold all that w holds -/
structure Kin (w : World) where
  at_ : World
  holds : Below w.heap.size w at_

theorem Kin.cell {w : World} (x : Kin w) {b o : Nat} {v : Value} (h : w.cell? ⟨b, o, none⟩ = some v) : x.at_.cell? ⟨b, o, none⟩ = some v :=
  (x.holds.cell (p := ⟨b, o, none⟩) (World.block_lt_of_cell? w _ h)).trans h

/-- a region that draws its order, whose operations read and whose callees read and make memory: one walk, over all the worlds that hold what w holds -/
theorem wp_region_kin {P : Program} {id : Nat} {Q : Exit → Act → World → Prop} {a : Act} {w : World} {l : List Oper} (hm : P.follows .mixedOrders = true) (hB : Region.lexB .any l.toArray = true)
    (h : wpQuiet P l.toArray (fun w' => ∃ x : Kin w, w' = x.at_) (fun a' => ∀ w', (∃ x : Kin w, w' = x.at_) → Q .normal a' w') l a) : (Code.region id l.toArray true).wp P Q a w :=
  wp_region_quiet (C := fun w' => ∃ x : Kin w, w' = x.at_) hm hB ⟨⟨w.drew, (Below.refl _ _).drew⟩, rfl⟩ (by simpa using h)

theorem Calls.kin_of {P : Program} {f : FuncId} {args : Array Value} {w : World} {x : Kin w} {v : Value}
    (h : Calls P f args x.at_ fun e w' => e = .returned v ∧ Below x.at_.heap.size x.at_ w') : Calls P f args x.at_ fun e w'' => e = .returned v ∧ ∃ y : Kin w, w'' = y.at_ :=
  Calls.mono h fun _ w' ⟨he, hb⟩ => ⟨he, ⟨w', x.holds.trans (hb.mono x.holds.size)⟩, rfl⟩

set_option maxHeartbeats 400000 in
theorem zsame_self (t : Tok) (w : World) :
    Calls Try.prog 23 #[.agg #[.int .i64 t.kind, .string t.text, .int .i64 t.line], .agg #[.int .i64 t.kind, .string t.text, .int .i64 t.line]] w fun e w' => e = .returned (.bool true) ∧ Below w.heap.size w w' := by
  go_enter Try.func23, Try.ntmps23
  go_wp2
  generalize hW : ((w.alloc (Obj.cells #[Value.int IntKind.i64 t.kind, Value.string t.text, Value.int IntKind.i64 t.line] 43)).alloc (Obj.cells #[Value.int IntKind.i64 t.kind, Value.string t.text, Value.int IntKind.i64 t.line] 43)) = W
  have c0 : ∀ x : Kin W, x.at_.cell? ⟨w.heap.size, 0, none⟩ = some (.int .i64 t.kind) := fun x => x.cell (by rw [← hW]; simp)
  have c1 : ∀ x : Kin W, x.at_.cell? ⟨w.heap.size, 1, none⟩ = some (.string t.text) := fun x => x.cell (by rw [← hW]; simp)
  have c2 : ∀ x : Kin W, x.at_.cell? ⟨w.heap.size, 2, none⟩ = some (.int .i64 t.line) := fun x => x.cell (by rw [← hW]; simp)
  have d0 : ∀ x : Kin W, x.at_.cell? ⟨w.heap.size + 1, 0, none⟩ = some (.int .i64 t.kind) := fun x => x.cell (by rw [← hW]; simp)
  have d1 : ∀ x : Kin W, x.at_.cell? ⟨w.heap.size + 1, 1, none⟩ = some (.string t.text) := fun x => x.cell (by rw [← hW]; simp)
  have d2 : ∀ x : Kin W, x.at_.cell? ⟨w.heap.size + 1, 2, none⟩ = some (.int .i64 t.line) := fun x => x.cell (by rw [← hW]; simp)
  have hb : Below w.heap.size w W := by rw [← hW]; exact ((Below.refl _ _).alloc (Nat.le_refl _) _).alloc (by simp) _
  clear hW
  have hne : Nonempty (Kin W) := ⟨⟨W, Below.refl _ _⟩⟩
  refine wp_region_kin (by kernel_rfl) (by kernel_rfl) ?_
  repeat (go_big_quiet_step (first | (go_at_call 40; exact Calls.kin_of (zkind_any _ _)) | (go_at_call 41; exact Calls.kin_of (ztext_any _ _)) | (go_at_call 42; exact Calls.kin_of (zline_any _ _))))
  refine wpQuiet_nil ?_
  rintro _ ⟨x, rfl⟩
  have hx : Below w.heap.size w x.at_ := hb.trans (x.holds.mono hb.size)
  clear c0 c1 c2 d0 d1 d2
  go_wp2
  go_ret
  exact ⟨rfl, hx⟩

end Go.Proofs.Qxb6001401a
