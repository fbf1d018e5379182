/- The walk of split. -/
import Derived.Test.Qxb6001401aWords
set_option linter.unusedSimpArgs false
set_option linter.unusedVariables false
namespace Go.Proofs.Qxb6001401a
open Go.ChangeShapes Go.WideShapes Go.ChangeAt Go.RowKit

abbrev bOpen : ByteArray := ⟨#[40]⟩
abbrev bClose : ByteArray := ⟨#[41]⟩
abbrev bBegin : ByteArray := ⟨#[98, 101, 103, 105, 110]⟩
abbrev bAtomic : ByteArray := ⟨#[97, 116, 111, 109, 105, 99]⟩
abbrev bCase : ByteArray := ⟨#[99, 97, 115, 101]⟩
abbrev bEnd : ByteArray := ⟨#[101, 110, 100]⟩
abbrev bSemi : ByteArray := ⟨#[59]⟩

/-- a word is no operator -/
theorem word_no_op {t : Tok} {a b : ByteArray} (h : t.isWord a = true) : t.isOp b = false := by
  unfold Tok.isWord at h
  unfold Tok.isOp
  simp only [Bool.and_eq_true, beq_iff_eq] at h
  rw [h.1]
  rfl

/-- one word is no other -/
theorem word_no_word {t : Tok} {a b : ByteArray} (h : t.isWord a = true) (hab : (a.toList == b.toList) = false) : t.isWord b = false := by
  unfold Tok.isWord at h ⊢
  simp only [Bool.and_eq_true, beq_iff_eq] at h
  rw [h.2, hab, Bool.and_false]

theorem op_no_op {t : Tok} {a b : ByteArray} (h : t.isOp a = true) (hab : (a.toList == b.toList) = false) : t.isOp b = false := by
  unfold Tok.isOp at h ⊢
  simp only [Bool.and_eq_true, beq_iff_eq] at h
  rw [h.2, hab, Bool.and_false]

/-- what the loop's state may be: closed under each way of a round -/
structure SplitInv (T : List Tok) (I : Nat → Nat → Int → Nat → List (Nat × Nat) → Prop) : Prop where
  start : I 0 0 0 0 []
  opens : ∀ k s p b acc t, T[k]? = some t → I k s p b acc → t.isOp bOpen = true → I (k + 1) s (p + 1) b acc
  closes : ∀ k s p b acc t, T[k]? = some t → I k s p b acc → t.isOp bOpen = false → t.isOp bClose = true → I (k + 1) s (p - 1) b acc
  more : ∀ k s p b acc t, T[k]? = some t → I k s p b acc → t.isOp bOpen = false → t.isOp bClose = false → (t.isWord bBegin = true ∨ (t.isWord bCase = true ∧ 0 < b)) → I (k + 1) s p (b + 1) acc
  less : ∀ k s p b acc t, T[k]? = some t → I k s p b acc → t.isOp bOpen = false → t.isOp bClose = false → t.isWord bEnd = true → 0 < b → I (k + 1) s p (b - 1) acc
  cuts : ∀ k s p b acc t, T[k]? = some t → I k s p b acc → t.isOp bOpen = false → t.isOp bClose = false → t.isOp bSemi = true → p ≤ 0 → b = 0 → s < k → I (k + 1) (k + 1) 0 0 (acc ++ [(s, k)])
  skips : ∀ k s p b acc t, T[k]? = some t → I k s p b acc → t.isOp bOpen = false → t.isOp bClose = false → t.isOp bSemi = true → p ≤ 0 → b = 0 → ¬ s < k → I (k + 1) (k + 1) 0 0 acc
  stays : ∀ k s p b acc t, T[k]? = some t → I k s p b acc → t.isOp bOpen = false → t.isOp bClose = false → (t.isOp bSemi = true → p ≤ 0 → b = 0 → False) → I (k + 1) s p b acc

/-- the value of the tokens from s to e -/
def stV (B N : Nat) (x : Nat × Nat) : Value := .slice (some ⟨B, x.1 * 3, none⟩) (x.2 - x.1) (N - x.1)

theorem Try.info39 : (Try.prog.info? 39).map (fun i => (i.zero, i.size, i.bytes)) = some (some (.slice none 0 0), 1, 24) := by kernel_rfl

theorem kin_first {W w1 : World} (hb : Below W.heap.size W w1) : ∃ y : Kin W, w1 = y.at_ := ⟨⟨w1, hb⟩, rfl⟩
theorem kin_next {W : World} {x : Kin W} {w1 : World} (hb : Below x.at_.heap.size x.at_ w1) : ∃ y : Kin W, w1 = y.at_ := ⟨⟨w1, x.holds.trans (hb.mono x.holds.size)⟩, rfl⟩

theorem below_next {n : Nat} {W w w1 : World} (h : Below n W w) (hn : n ≤ W.heap.size) (hb : Below w.heap.size w w1) : Below n W w1 := h.trans (hb.mono (Nat.le_trans hn h.size))

theorem tok_one_new (w : World) (v : Value) (t : TypeId) : ∀ j u, ([v] : List Value)[j]? = some u → (w.alloc (.cells #[v] t)).cell? ((⟨w.heap.size, 0, none⟩ : Addr).add j) = some u := by
  intro j u hj
  match j, hj with
  | 0, hj => simp at hj; subst hj; simp [Addr.add]

theorem stV_one (B N : Nat) (x : Nat × Nat) : ∀ u ∈ [stV B N x], u.oneCell' = true := by
  intro u hu
  simp at hu
  subst hu
  rfl

/-- the tokens of a part -/
theorem TokSl.part {w : World} {B : Nat} {T : List Tok} (h : TokSl w (some ⟨B, 0, none⟩) T) (s m : Nat) : TokSl w (some ⟨B, s * 3, none⟩) ((T.drop s).take m) := by
  intro i t hi
  rw [List.getElem?_take] at hi
  by_cases him : i < m
  · rw [if_pos him, List.getElem?_drop] at hi
    obtain ⟨b, o, e, ht⟩ := h (s + i) t hi
    obtain ⟨rfl, rfl⟩ : B = b ∧ 0 = o := by simpa using e
    exact ⟨_, _, rfl, by rw [show s * 3 + i * 3 = 0 + (s + i) * 3 by omega]; exact ht⟩
  · rw [if_neg him] at hi; cases hi

theorem ownsRow_below {w w' : World} {base : Nat} {e : TypeId} {size : Nat} {v : Value} {n : Nat} {xs : List Value} (h : w.ownsRow base e size v n xs) (hb : Below w.heap.size w w') : w'.ownsRow base e size v n xs :=
  h.kept (row := none) ⟨hb.os, hb.tape, hb.output, hb.size, fun k hk _ => hb.block k hk⟩ (by cases hv : v.ownBlock <;> simp)

theorem kin_below {wr : World} {o : Obj} (y : Kin (wr.alloc o)) : Below wr.heap.size wr y.at_ := ((Below.refl _ _).alloc (Nat.le_refl _) o).trans (y.holds.mono (by simp))

/-- the loop's relation -/
def SpAt (T : List Tok) (B N : Nat) (I : Nat → Nat → Int → Nat → List (Nat × Nat) → Prop) (w : World) (k s : Nat) (p : Int) (b : Nat) (acc : List (Nat × Nat)) (v : Value) (wr : World) : Prop :=
  s ≤ k ∧ b ≤ k ∧ acc.length ≤ k ∧ -(k : Int) ≤ p ∧ p ≤ (k : Int) ∧ wr.ownsRow w.heap.size 39 1 v acc.length (acc.map (stV B N)) ∧ Below w.heap.size w wr ∧ I k s p b acc

/-- what split leaves -/
def SplitPost (B N : Nat) (I : Nat → Nat → Int → Nat → List (Nat × Nat) → Prop) (w : World) (e : Ending) (w' : World) : Prop :=
  ∃ v s p b acc, e = .returned v ∧ I N s p b acc ∧ s ≤ N ∧
      w'.ownsRow w.heap.size 39 1 v (if s < N then acc ++ [(s, N)] else acc).length ((if s < N then acc ++ [(s, N)] else acc).map (stV B N)) ∧ (if s < N then acc ++ [(s, N)] else acc).length ≤ N + 1 ∧ Below w.heap.size w w'

set_option maxHeartbeats 2000000 in
set_option maxRecDepth 20000 in
theorem split_any (T : List Tok) (B N : Nat) (I : Nat → Nat → Int → Nat → List (Nat × Nat) → Prop) (w : World) (hN : T.length = N) (hmax : N ≤ 65536) (ht : TokSl w (some ⟨B, 0, none⟩) T) (hI : SplitInv T I) :
    Calls Try.prog 39 #[.slice (some ⟨B, 0, none⟩) N N] w fun e w' => SplitPost B N I w e w' := by
  obtain ⟨i0, hi, hz0, hz1, hz2⟩ := info_parts Try.info39
  have HN : Hid _ := hN
  have HI : Hid _ := hI
  have HT : Hid _ := ht
  clear hN hI ht
  go_enter Try.func39, Try.ntmps39
  go_wp2
  go_loopw [3, 4, 5, 6, 11] (fun v s' p' b' i wr => ∃ (k s : Nat) (p : Int) (b : Nat) (acc : List (Nat × Nat)), k ≤ N ∧ i = .int .i64 k ∧ s' = .int .i64 s ∧ p' = .int .i64 p ∧ b' = .int .i64 b ∧ SpAt T B N I w k s p b acc v wr) (fun _ _ _ _ i _ => N - (intOf i).toNat)
  case atStart => exact ⟨0, 0, 0, 0, [], Nat.zero_le _, rfl, rfl, rfl, rfl, Nat.le_refl _, Nat.le_refl _, Nat.le_refl _, by omega, by omega, World.ownsRow_nil _ _ _ _, Below.refl _ _, (show SplitInv T I from HI.out).start⟩
  case round =>
    obtain ⟨k, s, p, b, acc, hk, rfl, rfl, rfl, rfl, hsk, hbk, hak, hp1, hp2, hown, hbel, hInv⟩ := hrel
    have HInv : Hid _ := hInv
    clear hInv
    by_cases hlt : k < N
    · obtain ⟨t, htk⟩ : ∃ t, T[k]? = some t := ⟨_, List.getElem?_eq_getElem (by rw [HN.out]; exact hlt)⟩
      obtain ⟨_, _, e0, q⟩ := (TokSl.below HT.out hbel) k t htk
      obtain ⟨rfl, rfl⟩ : B = _ ∧ 0 = _ := by simpa using e0
      clear e0
      rw [Nat.zero_add] at q
      obtain ⟨q0, q1, q2⟩ := q
      have hsz := hbel.size
      have c0 : ∀ x : Kin (wr.alloc (.cells #[.int .i64 t.kind, .string t.text, .int .i64 t.line] 43)), x.at_.cell? ⟨wr.heap.size, 0, none⟩ = some (.int .i64 t.kind) := fun x => x.cell (by simp)
      have c1 : ∀ x : Kin (wr.alloc (.cells #[.int .i64 t.kind, .string t.text, .int .i64 t.line] 43)), x.at_.cell? ⟨wr.heap.size, 1, none⟩ = some (.string t.text) := fun x => x.cell (by simp)
      have c2 : ∀ x : Kin (wr.alloc (.cells #[.int .i64 t.kind, .string t.text, .int .i64 t.line] 43)), x.at_.cell? ⟨wr.heap.size, 2, none⟩ = some (.int .i64 t.line) := fun x => x.cell (by simp)
      have htk' : Hid _ := htk
      clear htk
      by_cases hop : t.isOp bOpen = true
      · go_wp2_with (first | (go_at_call 44; refine (isOp_any _ _ _).mono ?_; rintro e w1 ⟨rfl, hb⟩; first | obtain ⟨y, rfl⟩ := kin_next hb | obtain ⟨y, rfl⟩ := kin_first hb) | (go_at_call 45; refine (is_any _ _ _).mono ?_; rintro e w1 ⟨rfl, hb⟩; first | obtain ⟨y, rfl⟩ := kin_next hb | obtain ⟨y, rfl⟩ := kin_first hb))
        go_roundw
        case rel =>
          have hy := kin_below y
          exact ⟨k + 1, s, (p + 1), b, acc, by omega, by go_num, by go_num, by go_num, by go_num, by omega, by omega, by omega, by omega, by omega, ownsRow_below hown hy, below_next hbel (Nat.le_refl _) hy, (show SplitInv T I from HI.out).opens _ _ _ _ _ _ htk'.out HInv.out hop⟩
        case measure => simp [intOf]; omega
      simp only [Bool.not_eq_true] at hop
      by_cases hcl : t.isOp bClose = true
      · go_wp2_with (first | (go_at_call 44; refine (isOp_any _ _ _).mono ?_; rintro e w1 ⟨rfl, hb⟩; first | obtain ⟨y, rfl⟩ := kin_next hb | obtain ⟨y, rfl⟩ := kin_first hb) | (go_at_call 45; refine (is_any _ _ _).mono ?_; rintro e w1 ⟨rfl, hb⟩; first | obtain ⟨y, rfl⟩ := kin_next hb | obtain ⟨y, rfl⟩ := kin_first hb))
        go_roundw
        case rel =>
          have hy := kin_below y
          exact ⟨k + 1, s, (p - 1), b, acc, by omega, by go_num, by go_num, by go_num, by go_num, by omega, by omega, by omega, by omega, by omega, ownsRow_below hown hy, below_next hbel (Nat.le_refl _) hy, (show SplitInv T I from HI.out).closes _ _ _ _ _ _ htk'.out HInv.out hop hcl⟩
        case measure => simp [intOf]; omega
      simp only [Bool.not_eq_true] at hcl
      by_cases hbg : t.isWord bBegin = true
      · have hcs := word_no_word (b := bCase) hbg (by decide +kernel)
        have hen := word_no_word (b := bEnd) hbg (by decide +kernel)
        have hsc := word_no_op (b := bSemi) hbg
        by_cases hk1 : k + 1 < N
        · obtain ⟨t', htk1⟩ : ∃ t, T[k + 1]? = some t := ⟨_, List.getElem?_eq_getElem (by rw [HN.out]; exact hk1)⟩
          obtain ⟨_, _, e0, q'⟩ := (TokSl.below HT.out hbel) (k + 1) t' htk1
          obtain ⟨rfl, rfl⟩ : B = _ ∧ 0 = _ := by simpa using e0
          clear e0 htk1
          rw [Nat.zero_add] at q'
          have d0 : ∀ x : Kin (wr.alloc (.cells #[.int .i64 t.kind, .string t.text, .int .i64 t.line] 43)), x.at_.cell? ⟨B, (k + 1) * 3, none⟩ = some (.int .i64 t'.kind) := fun x => ((kin_below x).cell (World.block_lt_of_cell? wr _ q'.1)).trans q'.1
          have d1 : ∀ x : Kin (wr.alloc (.cells #[.int .i64 t.kind, .string t.text, .int .i64 t.line] 43)), x.at_.cell? ⟨B, (k + 1) * 3 + 1, none⟩ = some (.string t'.text) := fun x => ((kin_below x).cell (World.block_lt_of_cell? wr _ q'.2.1)).trans q'.2.1
          have d2 : ∀ x : Kin (wr.alloc (.cells #[.int .i64 t.kind, .string t.text, .int .i64 t.line] 43)), x.at_.cell? ⟨B, (k + 1) * 3 + 2, none⟩ = some (.int .i64 t'.line) := fun x => ((kin_below x).cell (World.block_lt_of_cell? wr _ q'.2.2)).trans q'.2.2
          clear q'
          have hk1I : (k : Int) + 1 < (N : Int) := by omega
          by_cases hat : t'.isWord bAtomic = true
          · go_wp2_with (first | (go_at_call 44; refine (isOp_any _ _ _).mono ?_; rintro e w1 ⟨rfl, hb⟩; first | obtain ⟨y, rfl⟩ := kin_next hb | obtain ⟨y, rfl⟩ := kin_first hb) | (go_at_call 45; refine (is_any _ _ _).mono ?_; rintro e w1 ⟨rfl, hb⟩; first | obtain ⟨y, rfl⟩ := kin_next hb | obtain ⟨y, rfl⟩ := kin_first hb))
            refine (creates_any ((T.drop s).take (k - s)) _ _ _ _ (by rw [List.length_take, List.length_drop, HN.out]; omega) (by omega) (TokSl.part (TokSl.below HT.out (below_next hbel (Nat.le_refl _) (kin_below y))) s (k - s))).mono ?_
            rintro e w1 ⟨bb, rfl, hb⟩
            obtain ⟨y, rfl⟩ := kin_next hb
            cases bb with
            | true =>
              go_wp2_with (first | (go_at_call 44; refine (isOp_any _ _ _).mono ?_; rintro e w1 ⟨rfl, hb⟩; first | obtain ⟨y, rfl⟩ := kin_next hb | obtain ⟨y, rfl⟩ := kin_first hb) | (go_at_call 45; refine (is_any _ _ _).mono ?_; rintro e w1 ⟨rfl, hb⟩; first | obtain ⟨y, rfl⟩ := kin_next hb | obtain ⟨y, rfl⟩ := kin_first hb))
              go_roundw
              case rel =>
                have hy := kin_below y
                exact ⟨k + 1, s, p, (b + 1), acc, by omega, by go_num, by go_num, by go_num, by go_num, by omega, by omega, by omega, by omega, by omega, ownsRow_below hown hy, below_next hbel (Nat.le_refl _) hy, (show SplitInv T I from HI.out).more _ _ _ _ _ _ htk'.out HInv.out hop hcl (.inl hbg)⟩
              case measure => simp [intOf]; omega
            | false =>
              go_wp2_with (first | (go_at_call 44; refine (isOp_any _ _ _).mono ?_; rintro e w1 ⟨rfl, hb⟩; first | obtain ⟨y, rfl⟩ := kin_next hb | obtain ⟨y, rfl⟩ := kin_first hb) | (go_at_call 45; refine (is_any _ _ _).mono ?_; rintro e w1 ⟨rfl, hb⟩; first | obtain ⟨y, rfl⟩ := kin_next hb | obtain ⟨y, rfl⟩ := kin_first hb))
              go_roundw
              case rel =>
                have hy := kin_below y
                exact ⟨k + 1, s, p, b, acc, by omega, by go_num, by go_num, by go_num, by go_num, by omega, by omega, by omega, by omega, by omega, ownsRow_below hown hy, below_next hbel (Nat.le_refl _) hy, (show SplitInv T I from HI.out).stays _ _ _ _ _ _ htk'.out HInv.out hop hcl (fun h => by rw [hsc] at h; cases h)⟩
              case measure => simp [intOf]; omega
          · simp only [Bool.not_eq_true] at hat
            go_wp2_with (first | (go_at_call 44; refine (isOp_any _ _ _).mono ?_; rintro e w1 ⟨rfl, hb⟩; first | obtain ⟨y, rfl⟩ := kin_next hb | obtain ⟨y, rfl⟩ := kin_first hb) | (go_at_call 45; refine (is_any _ _ _).mono ?_; rintro e w1 ⟨rfl, hb⟩; first | obtain ⟨y, rfl⟩ := kin_next hb | obtain ⟨y, rfl⟩ := kin_first hb))
            go_roundw
            case rel =>
              have hy := kin_below y
              exact ⟨k + 1, s, p, b, acc, by omega, by go_num, by go_num, by go_num, by go_num, by omega, by omega, by omega, by omega, by omega, ownsRow_below hown hy, below_next hbel (Nat.le_refl _) hy, (show SplitInv T I from HI.out).stays _ _ _ _ _ _ htk'.out HInv.out hop hcl (fun h => by rw [hsc] at h; cases h)⟩
            case measure => simp [intOf]; omega
        · have hk1I : ¬ (k : Int) + 1 < (N : Int) := by omega
          go_wp2_with (first | (go_at_call 44; refine (isOp_any _ _ _).mono ?_; rintro e w1 ⟨rfl, hb⟩; first | obtain ⟨y, rfl⟩ := kin_next hb | obtain ⟨y, rfl⟩ := kin_first hb) | (go_at_call 45; refine (is_any _ _ _).mono ?_; rintro e w1 ⟨rfl, hb⟩; first | obtain ⟨y, rfl⟩ := kin_next hb | obtain ⟨y, rfl⟩ := kin_first hb))
          go_roundw
          case rel =>
            have hy := kin_below y
            exact ⟨k + 1, s, p, b, acc, by omega, by go_num, by go_num, by go_num, by go_num, by omega, by omega, by omega, by omega, by omega, ownsRow_below hown hy, below_next hbel (Nat.le_refl _) hy, (show SplitInv T I from HI.out).stays _ _ _ _ _ _ htk'.out HInv.out hop hcl (fun h => by rw [hsc] at h; cases h)⟩
          case measure => simp [intOf]; omega
      simp only [Bool.not_eq_true] at hbg
      by_cases hcs : t.isWord bCase = true
      · by_cases hb0 : 0 < (b : Int)
        · go_wp2_with (first | (go_at_call 44; refine (isOp_any _ _ _).mono ?_; rintro e w1 ⟨rfl, hb⟩; first | obtain ⟨y, rfl⟩ := kin_next hb | obtain ⟨y, rfl⟩ := kin_first hb) | (go_at_call 45; refine (is_any _ _ _).mono ?_; rintro e w1 ⟨rfl, hb⟩; first | obtain ⟨y, rfl⟩ := kin_next hb | obtain ⟨y, rfl⟩ := kin_first hb))
          go_roundw
          case rel =>
            have hy := kin_below y
            exact ⟨k + 1, s, p, (b + 1), acc, by omega, by go_num, by go_num, by go_num, by go_num, by omega, by omega, by omega, by omega, by omega, ownsRow_below hown hy, below_next hbel (Nat.le_refl _) hy, (show SplitInv T I from HI.out).more _ _ _ _ _ _ htk'.out HInv.out hop hcl (.inr ⟨hcs, by omega⟩)⟩
          case measure => simp [intOf]; omega
        · have hen := word_no_word (b := bEnd) hcs (by decide +kernel)
          have hsc := word_no_op (b := bSemi) hcs
          go_wp2_with (first | (go_at_call 44; refine (isOp_any _ _ _).mono ?_; rintro e w1 ⟨rfl, hb⟩; first | obtain ⟨y, rfl⟩ := kin_next hb | obtain ⟨y, rfl⟩ := kin_first hb) | (go_at_call 45; refine (is_any _ _ _).mono ?_; rintro e w1 ⟨rfl, hb⟩; first | obtain ⟨y, rfl⟩ := kin_next hb | obtain ⟨y, rfl⟩ := kin_first hb))
          go_roundw
          case rel =>
            have hy := kin_below y
            exact ⟨k + 1, s, p, b, acc, by omega, by go_num, by go_num, by go_num, by go_num, by omega, by omega, by omega, by omega, by omega, ownsRow_below hown hy, below_next hbel (Nat.le_refl _) hy, (show SplitInv T I from HI.out).stays _ _ _ _ _ _ htk'.out HInv.out hop hcl (fun h => by rw [hsc] at h; cases h)⟩
          case measure => simp [intOf]; omega
      simp only [Bool.not_eq_true] at hcs
      by_cases hen : t.isWord bEnd = true
      · by_cases hb0 : 0 < (b : Int)
        · go_wp2_with (first | (go_at_call 44; refine (isOp_any _ _ _).mono ?_; rintro e w1 ⟨rfl, hb⟩; first | obtain ⟨y, rfl⟩ := kin_next hb | obtain ⟨y, rfl⟩ := kin_first hb) | (go_at_call 45; refine (is_any _ _ _).mono ?_; rintro e w1 ⟨rfl, hb⟩; first | obtain ⟨y, rfl⟩ := kin_next hb | obtain ⟨y, rfl⟩ := kin_first hb))
          go_roundw
          case rel =>
            have hy := kin_below y
            exact ⟨k + 1, s, p, (b - 1), acc, by omega, by go_num, by go_num, by go_num, by go_num, by omega, by omega, by omega, by omega, by omega, ownsRow_below hown hy, below_next hbel (Nat.le_refl _) hy, (show SplitInv T I from HI.out).less _ _ _ _ _ _ htk'.out HInv.out hop hcl hen (by omega)⟩
          case measure => simp [intOf]; omega
        · have hsc := word_no_op (b := bSemi) hen
          go_wp2_with (first | (go_at_call 44; refine (isOp_any _ _ _).mono ?_; rintro e w1 ⟨rfl, hb⟩; first | obtain ⟨y, rfl⟩ := kin_next hb | obtain ⟨y, rfl⟩ := kin_first hb) | (go_at_call 45; refine (is_any _ _ _).mono ?_; rintro e w1 ⟨rfl, hb⟩; first | obtain ⟨y, rfl⟩ := kin_next hb | obtain ⟨y, rfl⟩ := kin_first hb))
          go_roundw
          case rel =>
            have hy := kin_below y
            exact ⟨k + 1, s, p, b, acc, by omega, by go_num, by go_num, by go_num, by go_num, by omega, by omega, by omega, by omega, by omega, ownsRow_below hown hy, below_next hbel (Nat.le_refl _) hy, (show SplitInv T I from HI.out).stays _ _ _ _ _ _ htk'.out HInv.out hop hcl (fun h => by rw [hsc] at h; cases h)⟩
          case measure => simp [intOf]; omega
      simp only [Bool.not_eq_true] at hen
      by_cases hsc : t.isOp bSemi = true
      · by_cases hp0 : p ≤ 0
        · by_cases hb0 : ((b : Int) == 0) = true
          · have hbz : b = 0 := by have := beq_iff_eq.1 hb0; omega
            have HBZ : Hid _ := hbz
            clear hbz
            by_cases hsk' : s < k
            · go_wp2_with (first | (at_builtin; have hownY := ownsRow_below hown (kin_below y); refine wpList_append_own _ rfl (.tmp 82) (.tmp 87) 37 rfl w.heap.size 39 i0 (.slice none 0 0) 1 24 Try.underlying37 hi hz0 hz1 hz2 rfl (by decide) _ _ _ rfl (hownY.alloc _) ⟨y.at_.heap.size, 0, none⟩ 1 1 [stV B N (s, k)] rfl rfl (tok_one_new _ _ _) (stV_one _ _ _) (by unfold maxLen; omega) (by omega) (by have := (kin_below y).size; simp; omega) ?_; intro v' w2 hown2 hg2 _) | first | (go_at_call 44; refine (isOp_any _ _ _).mono ?_; rintro e w1 ⟨rfl, hb⟩; first | obtain ⟨y, rfl⟩ := kin_next hb | obtain ⟨y, rfl⟩ := kin_first hb) | (go_at_call 45; refine (is_any _ _ _).mono ?_; rintro e w1 ⟨rfl, hb⟩; first | obtain ⟨y, rfl⟩ := kin_next hb | obtain ⟨y, rfl⟩ := kin_first hb))
              go_roundw
              case rel =>
                have hy := kin_below y
                have hyb := below_next hbel (Nat.le_refl _) hy
                have hy2 : Below w.heap.size w w2 := (hyb.alloc hyb.size _).grown hg2 (by have := hyb.size; simp; omega) (fun j hj => (hown.lt j hj).1)
                exact ⟨k + 1, k + 1, 0, 0, acc ++ [(s, k)], by omega, by go_num, by go_num, by go_num, by rw [HBZ.out], by omega, by omega, by simp; omega, by omega, by omega, by simpa using hown2, hy2, (show SplitInv T I from HI.out).cuts _ _ _ _ _ _ htk'.out HInv.out hop hcl hsc hp0 HBZ.out hsk'⟩
              case measure => simp [intOf]; omega
            · have hskI : ¬ (s : Int) < (k : Int) := by omega
              go_wp2_with (first | (go_at_call 44; refine (isOp_any _ _ _).mono ?_; rintro e w1 ⟨rfl, hb⟩; first | obtain ⟨y, rfl⟩ := kin_next hb | obtain ⟨y, rfl⟩ := kin_first hb) | (go_at_call 45; refine (is_any _ _ _).mono ?_; rintro e w1 ⟨rfl, hb⟩; first | obtain ⟨y, rfl⟩ := kin_next hb | obtain ⟨y, rfl⟩ := kin_first hb))
              go_roundw
              case rel =>
                have hy := kin_below y
                exact ⟨k + 1, (k + 1), 0, 0, acc, by omega, by go_num, by go_num, by go_num, by rw [HBZ.out], by omega, by omega, by omega, by omega, by omega, ownsRow_below hown hy, below_next hbel (Nat.le_refl _) hy, (show SplitInv T I from HI.out).skips _ _ _ _ _ _ htk'.out HInv.out hop hcl hsc hp0 HBZ.out hsk'⟩
              case measure => simp [intOf]; omega
          · simp only [Bool.not_eq_true] at hb0
            go_wp2_with (first | (go_at_call 44; refine (isOp_any _ _ _).mono ?_; rintro e w1 ⟨rfl, hb⟩; first | obtain ⟨y, rfl⟩ := kin_next hb | obtain ⟨y, rfl⟩ := kin_first hb) | (go_at_call 45; refine (is_any _ _ _).mono ?_; rintro e w1 ⟨rfl, hb⟩; first | obtain ⟨y, rfl⟩ := kin_next hb | obtain ⟨y, rfl⟩ := kin_first hb))
            go_roundw
            case rel =>
              have hy := kin_below y
              exact ⟨k + 1, s, p, b, acc, by omega, by go_num, by go_num, by go_num, by go_num, by omega, by omega, by omega, by omega, by omega, ownsRow_below hown hy, below_next hbel (Nat.le_refl _) hy, (show SplitInv T I from HI.out).stays _ _ _ _ _ _ htk'.out HInv.out hop hcl (fun _ _ h => by rw [h] at hb0; cases hb0)⟩
            case measure => simp [intOf]; omega
        · go_wp2_with (first | (go_at_call 44; refine (isOp_any _ _ _).mono ?_; rintro e w1 ⟨rfl, hb⟩; first | obtain ⟨y, rfl⟩ := kin_next hb | obtain ⟨y, rfl⟩ := kin_first hb) | (go_at_call 45; refine (is_any _ _ _).mono ?_; rintro e w1 ⟨rfl, hb⟩; first | obtain ⟨y, rfl⟩ := kin_next hb | obtain ⟨y, rfl⟩ := kin_first hb))
          go_roundw
          case rel =>
            have hy := kin_below y
            exact ⟨k + 1, s, p, b, acc, by omega, by go_num, by go_num, by go_num, by go_num, by omega, by omega, by omega, by omega, by omega, ownsRow_below hown hy, below_next hbel (Nat.le_refl _) hy, (show SplitInv T I from HI.out).stays _ _ _ _ _ _ htk'.out HInv.out hop hcl (fun _ h => by omega)⟩
          case measure => simp [intOf]; omega
      simp only [Bool.not_eq_true] at hsc
      go_wp2_with (first | (go_at_call 44; refine (isOp_any _ _ _).mono ?_; rintro e w1 ⟨rfl, hb⟩; first | obtain ⟨y, rfl⟩ := kin_next hb | obtain ⟨y, rfl⟩ := kin_first hb) | (go_at_call 45; refine (is_any _ _ _).mono ?_; rintro e w1 ⟨rfl, hb⟩; first | obtain ⟨y, rfl⟩ := kin_next hb | obtain ⟨y, rfl⟩ := kin_first hb))
      go_roundw
      case rel =>
        have hy := kin_below y
        exact ⟨k + 1, s, p, b, acc, by omega, by go_num, by go_num, by go_num, by go_num, by omega, by omega, by omega, by omega, by omega, ownsRow_below hown hy, below_next hbel (Nat.le_refl _) hy, (show SplitInv T I from HI.out).stays _ _ _ _ _ _ htk'.out HInv.out hop hcl (fun h => by rw [hsc] at h; cases h)⟩
      case measure => simp [intOf]; omega
    · obtain rfl : k = N := by omega
      by_cases hsN : s < k
      · go_wp2_with (at_builtin; refine wpList_append_own _ rfl (.tmp 96) (.tmp 100) 37 rfl w.heap.size 39 i0 (.slice none 0 0) 1 24 Try.underlying37 hi hz0 hz1 hz2 rfl (by decide) _ _ _ rfl (hown.alloc _) ⟨wr.heap.size, 0, none⟩ 1 1 [stV B k (s, k)] rfl rfl (tok_one_new _ _ _) (stV_one _ _ _) (by unfold maxLen; omega) (by omega) (by have := hbel.size; simp; omega) ?_; intro v' w2 hown2 hg2 _)
        go_ret
        have hy2 : Below w.heap.size w w2 := (hbel.alloc hbel.size _).grown hg2 (by have := hbel.size; simp; omega) (fun j hj => (hown.lt j hj).1)
        refine ⟨v', s, p, b, acc, rfl, HInv.out, hsk, ?_, ?_, hy2⟩
        · rw [if_pos hsN]; simpa using hown2
        · rw [if_pos hsN]; simp; omega
      · have hsI : ¬ (s : Int) < (k : Int) := by omega
        go_wp2
        go_ret
        refine ⟨_, s, p, b, acc, rfl, HInv.out, hsk, ?_, ?_, hbel⟩
        · rw [if_neg hsN]; exact hown
        · rw [if_neg hsN]; omega

end Go.Proofs.Qxb6001401a
