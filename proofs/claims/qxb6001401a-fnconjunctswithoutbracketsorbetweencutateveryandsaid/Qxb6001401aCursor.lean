/- The walks of the cursor's methods: done, peek, skip; opens, zzOpens, zzCloses. -/
import Derived.Test.Qxb6001401aSplit
set_option linter.unusedSimpArgs false
set_option linter.unusedVariables false
namespace Go.Proofs.Qxb6001401a
open Go.ChangeShapes Go.WideShapes Go.ChangeAt Go.RowKit

abbrev bSqOpen : ByteArray := ⟨#[91]⟩
abbrev bSqClose : ByteArray := ⟨#[93]⟩

theorem opens_any (t : Tok) (w : World) :
    Calls Try.prog 51 #[.agg #[.int .i64 t.kind, .string t.text, .int .i64 t.line]] w fun e w' => e = .returned (.bool (t.isOp bOpen || t.isOp bSqOpen)) ∧ Below w.heap.size w w' := by
  have c0 : ∀ x : Kin (w.alloc (.cells #[.int .i64 t.kind, .string t.text, .int .i64 t.line] 43)), x.at_.cell? ⟨w.heap.size, 0, none⟩ = some (.int .i64 t.kind) := fun x => x.cell (by simp)
  have c1 : ∀ x : Kin (w.alloc (.cells #[.int .i64 t.kind, .string t.text, .int .i64 t.line] 43)), x.at_.cell? ⟨w.heap.size, 1, none⟩ = some (.string t.text) := fun x => x.cell (by simp)
  have c2 : ∀ x : Kin (w.alloc (.cells #[.int .i64 t.kind, .string t.text, .int .i64 t.line] 43)), x.at_.cell? ⟨w.heap.size, 2, none⟩ = some (.int .i64 t.line) := fun x => x.cell (by simp)
  cases h : t.isOp bOpen with
  | true =>
    go_enter Try.func51, Try.ntmps51
    go_wp2_with (go_at_call 44; refine (isOp_any _ _ _).mono ?_; rintro e w1 ⟨rfl, hb⟩; first | obtain ⟨y, rfl⟩ := kin_next hb | obtain ⟨y, rfl⟩ := kin_first hb)
    go_ret
    exact ⟨rfl, kin_below y⟩
  | false =>
    go_enter Try.func51, Try.ntmps51
    go_wp2_with (go_at_call 44; refine (isOp_any _ _ _).mono ?_; rintro e w1 ⟨rfl, hb⟩; first | obtain ⟨y, rfl⟩ := kin_next hb | obtain ⟨y, rfl⟩ := kin_first hb)
    go_ret
    exact ⟨rfl, kin_below y⟩

theorem zopens_any (t : Tok) (w : World) :
    Calls Try.prog 29 #[.agg #[.int .i64 t.kind, .string t.text, .int .i64 t.line]] w fun e w' => e = .returned (.bool (t.isOp bOpen || t.isOp bSqOpen)) ∧ Below w.heap.size w w' := by
  have c0 : ∀ x : Kin (w.alloc (.cells #[.int .i64 t.kind, .string t.text, .int .i64 t.line] 43)), x.at_.cell? ⟨w.heap.size, 0, none⟩ = some (.int .i64 t.kind) := fun x => x.cell (by simp)
  have c1 : ∀ x : Kin (w.alloc (.cells #[.int .i64 t.kind, .string t.text, .int .i64 t.line] 43)), x.at_.cell? ⟨w.heap.size, 1, none⟩ = some (.string t.text) := fun x => x.cell (by simp)
  have c2 : ∀ x : Kin (w.alloc (.cells #[.int .i64 t.kind, .string t.text, .int .i64 t.line] 43)), x.at_.cell? ⟨w.heap.size, 2, none⟩ = some (.int .i64 t.line) := fun x => x.cell (by simp)
  cases h : t.isOp bOpen with
  | true =>
    go_enter Try.func29, Try.ntmps29
    go_wp2_with (go_at_call 22; refine (zisOp_any _ _ _).mono ?_; rintro e w1 ⟨rfl, hb⟩; first | obtain ⟨y, rfl⟩ := kin_next hb | obtain ⟨y, rfl⟩ := kin_first hb)
    go_ret
    exact ⟨rfl, kin_below y⟩
  | false =>
    go_enter Try.func29, Try.ntmps29
    go_wp2_with (go_at_call 22; refine (zisOp_any _ _ _).mono ?_; rintro e w1 ⟨rfl, hb⟩; first | obtain ⟨y, rfl⟩ := kin_next hb | obtain ⟨y, rfl⟩ := kin_first hb)
    go_ret
    exact ⟨rfl, kin_below y⟩

theorem zcloses_any (t : Tok) (w : World) :
    Calls Try.prog 30 #[.agg #[.int .i64 t.kind, .string t.text, .int .i64 t.line]] w fun e w' => e = .returned (.bool (t.isOp bClose || t.isOp bSqClose)) ∧ Below w.heap.size w w' := by
  have c0 : ∀ x : Kin (w.alloc (.cells #[.int .i64 t.kind, .string t.text, .int .i64 t.line] 43)), x.at_.cell? ⟨w.heap.size, 0, none⟩ = some (.int .i64 t.kind) := fun x => x.cell (by simp)
  have c1 : ∀ x : Kin (w.alloc (.cells #[.int .i64 t.kind, .string t.text, .int .i64 t.line] 43)), x.at_.cell? ⟨w.heap.size, 1, none⟩ = some (.string t.text) := fun x => x.cell (by simp)
  have c2 : ∀ x : Kin (w.alloc (.cells #[.int .i64 t.kind, .string t.text, .int .i64 t.line] 43)), x.at_.cell? ⟨w.heap.size, 2, none⟩ = some (.int .i64 t.line) := fun x => x.cell (by simp)
  cases h : t.isOp bClose with
  | true =>
    go_enter Try.func30, Try.ntmps30
    go_wp2_with (go_at_call 22; refine (zisOp_any _ _ _).mono ?_; rintro e w1 ⟨rfl, hb⟩; first | obtain ⟨y, rfl⟩ := kin_next hb | obtain ⟨y, rfl⟩ := kin_first hb)
    go_ret
    exact ⟨rfl, kin_below y⟩
  | false =>
    go_enter Try.func30, Try.ntmps30
    go_wp2_with (go_at_call 22; refine (zisOp_any _ _ _).mono ?_; rintro e w1 ⟨rfl, hb⟩; first | obtain ⟨y, rfl⟩ := kin_next hb | obtain ⟨y, rfl⟩ := kin_first hb)
    go_ret
    exact ⟨rfl, kin_below y⟩

/-- done: the place is at the end -/
theorem done_any (c : Nat) (ao : Option Addr) (n cap p : Nat) (w : World) (h : CurAt c ao n cap p w) :
    Calls Try.prog 49 #[.pointer (some ⟨c, 0, none⟩)] w fun e w' => e = .returned (.bool (decide (n ≤ p))) ∧ Below w.heap.size w w' := by
  obtain ⟨c0, c1, cf⟩ := h
  go_enter Try.func49, Try.ntmps49
  go_wp2
  go_quiet (fail)
  go_wp2
  go_ret
  exact ⟨ret_bool (by simp), below_drewN (Below.refl _ _) nq⟩

/-- peek at a token that is there -/
theorem peek_in (ts : List Tok) (t : Tok) (c : Nat) (ao : Option Addr) (n cap p : Nat) (w : World) (h : CurAt c ao n cap p w) (hn : n ≤ 1048576) (hp : p < n) (hT : TokSl w ao ts) (ht : ts[p]? = some t) :
    Calls Try.prog 47 #[.pointer (some ⟨c, 0, none⟩)] w fun e w' => e = .returned (.agg #[.int .i64 t.kind, .string t.text, .int .i64 t.line]) ∧ Below w.heap.size w w' := by
  obtain ⟨b, o, rfl, q⟩ := hT p t ht
  have D : Hid _ := done_any c (some ⟨b, o, none⟩) n cap p (w.alloc (.cells #[.int .i64 0, .string ByteArray.empty, .int .i64 0] 43)) (h.below (below_alloc _ _))
  have hd : decide (n ≤ p) = false := decide_eq_false (by omega)
  obtain ⟨c0, c1, cf⟩ := h
  obtain ⟨q0, q1, q2⟩ := q
  clear hT ht
  go_enter Try.func47, Try.ntmps47
  go_wp2_with (go_at_call 49; refine Calls.mono D.out ?_; rintro e w1 ⟨rfl, hb⟩; obtain ⟨y, rfl⟩ := kin_first hb)
  have hb0 := kin_below y
  have lc := World.block_lt_of_cell? w _ c0
  have lq := World.block_lt_of_cell? w _ q0
  have d0 := (hb0.cell lc).trans c0
  have d1 := (hb0.cell (p := ⟨c, 1, none⟩) lc).trans c1
  have e0 := (hb0.cell lq).trans q0
  have e1 := (hb0.cell (p := ⟨b, o + p * 3 + 1, none⟩) lq).trans q1
  have e2 := (hb0.cell (p := ⟨b, o + p * 3 + 2, none⟩) lq).trans q2
  have f0 : y.at_.cell? ⟨w.heap.size, 0, none⟩ = some (.int .i64 0) := y.cell (by simp)
  have f1 : y.at_.cell? ⟨w.heap.size, 1, none⟩ = some (.string ByteArray.empty) := y.cell (by simp)
  have f2 : y.at_.cell? ⟨w.heap.size, 2, none⟩ = some (.int .i64 0) := y.cell (by simp)
  have g0 : y.at_.frozen? ⟨w.heap.size, 0, none⟩ = false := (y.holds.frozen (by simp)).trans (by simp)
  have g1 : y.at_.frozen? ⟨w.heap.size, 1, none⟩ = false := (y.holds.frozen (by simp)).trans (by simp)
  have g2 : y.at_.frozen? ⟨w.heap.size, 2, none⟩ = false := (y.holds.frozen (by simp)).trans (by simp)
  have hpI : (p : Int) < (n : Int) := by omega
  have h0I : (0 : Int) ≤ (p : Int) := by omega
  have lcN : ¬ c = w.heap.size := by simp only at lc; omega
  have lqN : ¬ b = w.heap.size := by simp only at lq; omega
  clear c0 c1 cf q0 q1 q2 lc lq D
  go_region
  go_wp2
  refine bodyPost_ret (v := .agg #[.int .i64 t.kind, .string t.text, .int .i64 t.line]) (by simp [results, Try.results47, go_sem, f0, f1, f2]) rfl ⟨rfl, ?_⟩
  exact (((hb0.drew).setCell (Nat.le_refl _) _).setCell (Nat.le_refl _) _).setCell (Nat.le_refl _) _

/-- peek at the end -/
theorem peek_out (c : Nat) (ao : Option Addr) (n cap p : Nat) (w : World) (h : CurAt c ao n cap p w) (hp : ¬ p < n) :
    Calls Try.prog 47 #[.pointer (some ⟨c, 0, none⟩)] w fun e w' => e = .returned (.agg #[.int .i64 (-1), .string ByteArray.empty, .int .i64 0]) ∧ Below w.heap.size w w' := by
  have D : Hid _ := done_any c ao n cap p (w.alloc (.cells #[.int .i64 0, .string ByteArray.empty, .int .i64 0] 43)) (h.below (below_alloc _ _))
  have hd : decide (n ≤ p) = true := decide_eq_true (by omega)
  clear h
  go_enter Try.func47, Try.ntmps47
  go_wp2_with fail
  refine Calls.mono D.out ?_
  rintro e w1 ⟨rfl, hb⟩
  obtain ⟨y, rfl⟩ := kin_first hb
  have f0 : y.at_.cell? ⟨w.heap.size, 0, none⟩ = some (.int .i64 0) := y.cell (by simp)
  have f1 : y.at_.cell? ⟨w.heap.size, 1, none⟩ = some (.string ByteArray.empty) := y.cell (by simp)
  have f2 : y.at_.cell? ⟨w.heap.size, 2, none⟩ = some (.int .i64 0) := y.cell (by simp)
  have g0 : y.at_.frozen? ⟨w.heap.size, 0, none⟩ = false := (y.holds.frozen (by simp)).trans (by simp)
  have g1 : y.at_.frozen? ⟨w.heap.size, 1, none⟩ = false := (y.holds.frozen (by simp)).trans (by simp)
  have g2 : y.at_.frozen? ⟨w.heap.size, 2, none⟩ = false := (y.holds.frozen (by simp)).trans (by simp)
  have hb0 := kin_below y
  clear D hb
  go_wp2
  refine bodyPost_ret (v := .agg #[.int .i64 (-1), .string ByteArray.empty, .int .i64 0]) (by simp [results, Try.results47, go_sem, f0, f1, f2]; rfl) rfl ⟨rfl, ?_⟩
  exact ((hb0.setCell (Nat.le_refl _) _).setCell (Nat.le_refl _) _).setCell (Nat.le_refl _) _

/-- the token that stands for the end -/
def noTok : Tok := ⟨-1, ByteArray.empty, 0⟩

/-- what peek sees -/
def seen (ts : List Tok) (p : Nat) : Tok := (ts[p]?).getD noTok

theorem peek_any (ts : List Tok) (c : Nat) (ao : Option Addr) (n cap p : Nat) (w : World) (h : CurAt c ao n cap p w) (hn : n ≤ 1048576) (hN : ts.length = n) (hT : TokSl w ao ts) :
    Calls Try.prog 47 #[.pointer (some ⟨c, 0, none⟩)] w fun e w' => e = .returned (.agg #[.int .i64 (seen ts p).kind, .string (seen ts p).text, .int .i64 (seen ts p).line]) ∧ Below w.heap.size w w' := by
  by_cases hp : p < n
  · obtain ⟨t, ht⟩ : ∃ t, ts[p]? = some t := ⟨_, List.getElem?_eq_getElem (by rw [hN]; exact hp)⟩
    have e : seen ts p = t := by simp [seen, ht]
    rw [e]
    exact peek_in ts t c ao n cap p w h hn hp hT ht
  · have e : seen ts p = noTok := by unfold seen; rw [List.getElem?_eq_none (by rw [hN]; omega)]; rfl
    rw [e]
    exact peek_out c ao n cap p w h hp

theorem CurAt.moved {c : Nat} {ao : Option Addr} {n cap p q : Nat} {W : World} {z : Int} (h : CurAt c ao n cap p W) (hz : z = (q : Int)) : CurAt c ao n cap q (W.setCell ⟨c, 1, none⟩ (.int .i64 z)).drew := by
  subst hz
  obtain ⟨h0, h1, h2⟩ := h
  refine ⟨?_, ?_, ?_⟩
  · show (W.setCell ⟨c, 1, none⟩ (.int .i64 (q : Int))).cell? ⟨c, 0, none⟩ = _
    rw [World.cell?_setCell_other _ _ _ _ (by simp)]; exact h0
  · show (W.setCell ⟨c, 1, none⟩ (.int .i64 (q : Int))).cell? ⟨c, 1, none⟩ = _
    rw [World.cell?_setCell_same _ _ _ h1]
  · show (W.setCell ⟨c, 1, none⟩ (.int .i64 (q : Int))).frozen? ⟨c, 1, none⟩ = _
    simpa using h2

/-- skip past a token that opens nothing -/
theorem skip_any' (ts : List Tok) (c : Nat) (ao : Option Addr) (n cap p : Nat) (w : World) (h : CurAt c ao n cap p w) (hn : n ≤ 1048576) (hN : ts.length = n) (hp : p ≤ n) (hT : TokSl w ao ts) (ho : (seen ts p).isOp bOpen = false) (hs : (seen ts p).isOp bSqOpen = false) :
    Calls Try.prog 48 #[.pointer (some ⟨c, 0, none⟩)] w fun e w' => e = .returned (.slice none 0 0) ∧ CurAt c ao n cap (min (p + 1) n) w' ∧ Below c w w' := by
  have P : Hid _ := peek_any ts c ao n cap p w h hn hN hT
  have H : Hid _ := h
  have lc := World.block_lt_of_cell? w _ h.1
  generalize seen ts p = t at *
  have ho2 : (t.isOp bOpen || t.isOp bSqOpen) = false := by rw [ho, hs]; rfl
  clear h hT hN
  go_enter Try.func48, Try.ntmps48
  go_wp2_with (first | (go_at_call 47; refine Calls.mono P.out ?_; rintro e w1 ⟨rfl, hb⟩; obtain ⟨y, rfl⟩ := kin_first hb) | (go_at_call 51; refine (opens_any _ _).mono ?_; rintro e w1 ⟨rfl, hb⟩; obtain ⟨y, rfl⟩ := kin_next hb))
  have HC : Hid _ := CurAt.below H.out y.holds
  obtain ⟨c0, c1, cf⟩ := HC.out
  have hyb := y.holds
  clear P
  go_region
  go_wp2
  all_goals
    go_ret
    exact ⟨rfl, CurAt.moved HC.out (by omega), ((hyb.mono (Nat.le_of_lt lc)).setCell (p := ⟨c, 1, none⟩) (Nat.le_refl _) _).drew⟩

end Go.Proofs.Qxb6001401a
