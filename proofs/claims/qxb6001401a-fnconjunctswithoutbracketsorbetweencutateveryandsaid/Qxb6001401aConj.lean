/- The walk of conjuncts where nothing is joined: the expression alone. -/
import Derived.Test.Qxb6001401aCursor
import Derived.Deep.LoopGhost
set_option linter.unusedSimpArgs false
set_option linter.unusedVariables false
namespace Go.Proofs.Qxb6001401a
open Go.ChangeShapes Go.WideShapes Go.ChangeAt Go.RowKit

abbrev bBetween : ByteArray := ⟨#[98, 101, 116, 119, 101, 101, 110]⟩
abbrev bAnd : ByteArray := ⟨#[97, 110, 100]⟩

/-- no bracket opens, no BETWEEN -/
def Mild (t : Tok) : Prop := t.isOp bOpen = false ∧ t.isOp bSqOpen = false ∧ t.isWord bBetween = false

theorem mild_noTok : Mild noTok := ⟨rfl, rfl, rfl⟩

theorem seen_mild {ts : List Tok} (h : ∀ (k : Nat) (t : Tok), ts[k]? = some t → Mild t) (p : Nat) : Mild (seen ts p) := by
  unfold seen
  cases e : ts[p]? with
  | none => exact mild_noTok
  | some t => exact h p t e

theorem seen_and {ts : List Tok} (h : ∀ (k : Nat) (t : Tok), ts[k]? = some t → t.isWord bAnd = false) (p : Nat) : (seen ts p).isWord bAnd = false := by
  unfold seen
  cases e : ts[p]? with
  | none => rfl
  | some t => exact h p t e

theorem cur_new (w : World) (ao : Option Addr) (n cap p : Nat) : CurAt w.heap.size ao n cap p (w.alloc (.cells #[.slice ao n cap, .int .i64 p] 58)) := ⟨by simp, by simp, by simp⟩

theorem owns_one {w : World} {base : Nat} {e : TypeId} (h : base ≤ w.heap.size) (v : Value) : (w.alloc (.cells #[v] e)).ownsRow base e 1 (.slice (some ⟨w.heap.size, 0, none⟩) 1 1) 1 [v] :=
  ⟨rfl, .inr ⟨w.heap.size, 1, #[v], rfl, h, heap_alloc_new w _, Nat.le_refl _, by unfold maxLen; omega, rfl, rfl⟩⟩

set_option maxHeartbeats 2000000 in
set_option maxRecDepth 20000 in
theorem conj_leaf (ts : List Tok) (ao : Option Addr) (n cap : Nat) (w : World) (hN : ts.length = n) (hn : n ≤ 65536) (hT : TokSl w ao ts) (hM : ∀ (k : Nat) (t : Tok), ts[k]? = some t → Mild t) (hA : ∀ (k : Nat) (t : Tok), ts[k]? = some t → t.isWord bAnd = false) :
    Calls Try.prog 43 #[.slice ao n cap] w fun e w' => ∃ g, e = .returned (.slice (some ⟨g, 0, none⟩) 1 1) ∧ w'.ownsRow w.heap.size 35 1 (.slice (some ⟨g, 0, none⟩) 1 1) 1 [.slice ao n cap] ∧ Below w.heap.size w w' := by
  have HN : Hid _ := hN
  have HT : Hid _ := hT
  have HM : Hid _ := hM
  have HA : Hid _ := hA
  have hs0 := (seen_mild hM 0).1
  have P0 : Hid _ := peek_any ts w.heap.size ao n cap 0 (w.alloc (.cells #[.slice ao n cap, .int .i64 0] 58)) (cur_new w ao n cap 0) (by omega) hN (hT.below (below_alloc _ _))
  clear hN hT hM hA
  go_enter Try.func43, Try.ntmps43
  go_wp2_with (first | (go_at_call 47; refine Calls.mono P0.out ?_; rintro e w1 ⟨rfl, hb⟩; obtain ⟨y, rfl⟩ := kin_first hb) | (go_at_call 44; refine (isOp_any _ _ _).mono ?_; rintro e w1 ⟨rfl, hb⟩; obtain ⟨y, rfl⟩ := kin_next hb))
  have hy := kin_below y
  have hy2 : Below w.heap.size w (y.at_.alloc (.cells #[.slice ao n cap, .int .i64 0] 58)) := hy.alloc hy.size _
  have hys := hy.size
  have HC0 : Hid _ := cur_new y.at_ ao n cap 0
  clear P0 hy hs0
  go_loopg [6, 7, 8, 9] n (fun gk v6 v7 v8 v9 wr => ∃ (c p : Nat), gk = n - p ∧ p ≤ n ∧ v6 = .slice none 0 0 ∧ v7 = .int .i64 0 ∧ v8 = .bool false ∧ v9 = .pointer (some ⟨c, 0, none⟩) ∧ CurAt c ao n cap p wr ∧ w.heap.size ≤ c ∧ Below w.heap.size w wr)
  case atStart => exact ⟨y.at_.heap.size, 0, rfl, Nat.zero_le _, rfl, rfl, rfl, rfl, HC0.out, hys, hy2⟩
  case round =>
    obtain ⟨c, p, hgk, hp, rfl, rfl, rfl, rfl, hc, hwc, hb⟩ := hrel
    have HG : Hid _ := hgk
    have D : Hid _ := done_any c ao n cap p wr hc
    have P : Hid (∀ x : Kin wr, _) := fun x : Kin wr => peek_any ts c ao n cap p x.at_ (hc.below x.holds) (by omega) HN.out (TokSl.below HT.out (below_next hb (Nat.le_refl _) x.holds))
    have mt := seen_mild HM.out p
    have at_ := seen_and HA.out p
    have S : Hid (∀ (c' : Nat) (w' : World), CurAt c' ao n cap p w' → TokSl w' ao ts → _) := fun (c' : Nat) (w' : World) h1 h2 => skip_any' ts c' ao n cap p w' h1 (by omega) HN.out hp h2 mt.1 mt.2.1
    obtain ⟨m1, m2, m3⟩ := mt
    have lc := World.block_lt_of_cell? wr _ hc.1
    have HC : Hid _ := hc
    generalize seen ts p = t at *
    clear hgk hc HC0 hy2 hys
    by_cases hlt : p < n
    · have hd : decide (n ≤ p) = false := decide_eq_false (by omega)
      go_wp2_with (first | (go_at_call 49; refine Calls.mono D.out ?_; rintro e w1 ⟨rfl, hb1⟩; obtain ⟨y, rfl⟩ := kin_first hb1) | (go_at_call 47; refine Calls.mono (P.out _) ?_; rintro e w1 ⟨rfl, hb1⟩; obtain ⟨y, rfl⟩ := kin_next hb1))
      have hyb := y.holds
      have C1 := CurAt.below HC.out hyb
      have c0 : ∀ x : Kin (y.at_.alloc (.cells #[.int .i64 t.kind, .string t.text, .int .i64 t.line] 43)), x.at_.cell? ⟨y.at_.heap.size, 0, none⟩ = some (.int .i64 t.kind) := fun x => x.cell (by simp)
      have c1 : ∀ x : Kin (y.at_.alloc (.cells #[.int .i64 t.kind, .string t.text, .int .i64 t.line] 43)), x.at_.cell? ⟨y.at_.heap.size, 1, none⟩ = some (.string t.text) := fun x => x.cell (by simp)
      have c2 : ∀ x : Kin (y.at_.alloc (.cells #[.int .i64 t.kind, .string t.text, .int .i64 t.line] 43)), x.at_.cell? ⟨y.at_.heap.size, 2, none⟩ = some (.int .i64 t.line) := fun x => x.cell (by simp)
      have d0 : ∀ x : Kin (y.at_.alloc (.cells #[.int .i64 t.kind, .string t.text, .int .i64 t.line] 43)), x.at_.cell? ⟨c, 0, none⟩ = some (.slice ao n cap) := fun x => (C1.below (kin_below x)).1
      have d1 : ∀ x : Kin (y.at_.alloc (.cells #[.int .i64 t.kind, .string t.text, .int .i64 t.line] 43)), x.at_.cell? ⟨c, 1, none⟩ = some (.int .i64 p) := fun x => (C1.below (kin_below x)).2.1
      clear C1 D P
      go_wp2_with (go_at_call 45; refine (is_any _ _ _).mono ?_; rintro e w1 ⟨rfl, hb1⟩; first | obtain ⟨z, rfl⟩ := kin_next hb1 | obtain ⟨z, rfl⟩ := kin_first hb1)
      have hzb : Below wr.heap.size wr z.at_ := below_next hyb (Nat.le_refl _) (kin_below z)
      have hzw : Below w.heap.size w z.at_ := below_next hb (Nat.le_refl _) hzb
      refine Calls.mono (S.out z.at_.heap.size _ (cur_new z.at_ ao n cap p) (TokSl.below HT.out (hzw.alloc hzw.size _))) ?_
      rintro e w5 ⟨rfl, hc5, hb5⟩
      have HC5 : Hid _ := hc5
      have hw5 : Below w.heap.size w w5 := (hzw.alloc hzw.size _).trans (hb5.mono hzw.size)
      have hzs := hzw.size
      clear c0 c1 c2 d0 d1 S hc5 hb5
      go_wp2
      go_roundg (n - (p + 1))
      case measure => rw [HG.out]; omega
      case rel => exact ⟨z.at_.heap.size, p + 1, rfl, by omega, rfl, rfl, rfl, rfl, by have := HC5.out; rw [show min (p + 1) n = p + 1 by omega] at this; exact this, hzs, hw5⟩
    · have hd : decide (n ≤ p) = true := decide_eq_true (by omega)
      clear P S
      go_wp2_with fail
      refine Calls.mono D.out ?_
      rintro e w1 ⟨rfl, hb1⟩
      obtain ⟨y, rfl⟩ := kin_first hb1
      have hyb : Below w.heap.size w y.at_ := below_next hb (Nat.le_refl _) y.holds
      clear D
      go_wp2
      go_ret
      exact ⟨y.at_.heap.size, rfl, owns_one hyb.size _, hyb.alloc hyb.size _⟩

end Go.Proofs.Qxb6001401a
