/- The walk of FnConjunctsWithoutBracketsOrBetweenCutAtEveryAnd. -/
import Derived.Test.Qxb6001401aConjTop
set_option linter.unusedSimpArgs false
set_option linter.unusedVariables false
namespace Go.Proofs.Qxb6001401a
open Go.ChangeShapes Go.WideShapes Go.ChangeAt Go.RowKit

theorem tok_atF {w : World} {B : Nat} {T : List Tok} (h : TokSl w (some ⟨B, 0, none⟩) T) {k : Nat} {t : Tok} (hk : T[k]? = some t) : TokHere w B (k * 3) t := by
  obtain ⟨b, o, e, ht⟩ := h k t hk
  obtain ⟨rfl, rfl⟩ : B = b ∧ 0 = o := by simpa using e
  rw [Nat.zero_add] at ht
  exact ht

theorem zconj_any (T : List Tok) (B N : Nat) (w : World) (hN : T.length = N) (hmax : N ≤ 65536) (hT : TokSl w (some ⟨B, 0, none⟩) T) (hM : ∀ (k : Nat) (t : Tok), T[k]? = some t → Mild t) :
    Calls Try.prog 31 #[.slice (some ⟨B, 0, none⟩) N N] w fun e w' => ConjPost T B N w e w' := by
  have C : Hid (Calls Try.prog 43 #[.slice (some ⟨B, 0, none⟩) N N] w fun e w' => ConjPost T B N w e w') := by
    by_cases h0 : (andTo T N).2 = []
    · exact conj_none T B N w hN hmax hT hM h0
    · exact conj_some T B N w hN hmax hT hM h0
  clear hN hT hM
  go_enter Try.func31, Try.ntmps31
  go_wp2_with fail
  refine Calls.mono C.out ?_
  rintro e w' ⟨v, rfl, h⟩
  have H : Hid _ := h
  clear h
  go_wp2
  go_ret
  exact ⟨v, rfl, H.out⟩

theorem lawF_long (zs : List Int) (ss : List ByteArray) (ka ta : Option Addr) (kl tl kc tc : Nat) (w : World) (htl : ss.length = tl) (hk1 : kl ≤ maxLen) (hk2 : tl ≤ maxLen) (ht : StrSl w ta ss) (h : ¬ kl + tl + tot ss ≤ 1048576) :
    Calls Try.prog 9 #[.slice ka kl kc, .slice ta tl tc] w fun e w' => e = .returned (.bool true) ∧ Below w.heap.size w w' := by
  have C := bytesF_any zs ss ka ta kl tl kc tc w htl hk1 hk2 ht
  rw [decide_eq_false h] at C
  have HC : Hid _ := C
  clear C htl ht
  go_enter Try.func9, Try.ntmps9
  go_wp2_with (go_at_call 28; refine Calls.mono HC.out ?_; rintro e w' ⟨rfl, rfl⟩)
  go_ret
  exact ⟨rfl, Below.refl _ _⟩

theorem lawF_many (zs : List Int) (ss : List ByteArray) (ka ta : Option Addr) (kl tl kc tc : Nat) (w : World) (htl : ss.length = tl) (hk1 : kl ≤ maxLen) (hk2 : tl ≤ maxLen) (ht : StrSl w ta ss) (h : kl + tl + tot ss ≤ 1048576) (h2 : 65536 < kl ∨ 65536 < tl) :
    Calls Try.prog 9 #[.slice ka kl kc, .slice ta tl tc] w fun e w' => e = .returned (.bool true) ∧ Below w.heap.size w w' := by
  have C := bytesF_any zs ss ka ta kl tl kc tc w htl hk1 hk2 ht
  rw [decide_eq_true h] at C
  have HC : Hid _ := C
  clear C htl ht
  by_cases h1 : 65536 < kl
  · clear h2
    go_enter Try.func9, Try.ntmps9
    go_wp2_with (go_at_call 28; refine Calls.mono HC.out ?_; rintro e w' ⟨rfl, rfl⟩)
    go_ret
    exact ⟨rfl, Below.refl _ _⟩
  · have h3 : 65536 < tl := by omega
    clear h2
    go_enter Try.func9, Try.ntmps9
    go_wp2_with (go_at_call 28; refine Calls.mono HC.out ?_; rintro e w' ⟨rfl, rfl⟩)
    go_ret
    exact ⟨rfl, Below.refl _ _⟩

theorem lawF_big (zs : List Int) (ss : List ByteArray) (ka ta : Option Addr) (kl tl kc tc : Nat) (w : World) (htl : ss.length = tl) (hk1 : kl ≤ maxLen) (hk2 : tl ≤ maxLen) (ht : StrSl w ta ss) (h : kl + tl + tot ss ≤ 1048576) (h1 : ¬ 65536 < kl) (h2 : ¬ 65536 < tl)
    (h3 : 1048576 < 8 * kl + 16 * tl + tot ss) :
    Calls Try.prog 9 #[.slice ka kl kc, .slice ta tl tc] w fun e w' => e = .returned (.bool true) ∧ Below w.heap.size w w' := by
  have C := bytesF_any zs ss ka ta kl tl kc tc w htl hk1 hk2 ht
  rw [decide_eq_true h] at C
  have HC : Hid _ := C
  have HD : Hid _ := tokBytes_any ss ka ta kl tl kc tc w htl h ht
  clear C htl ht
  go_enter Try.func9, Try.ntmps9
  go_wp2_with (first | (go_at_call 28; refine Calls.mono HC.out ?_; rintro e w' ⟨rfl, hw⟩; have hw2 := hw.symm; subst hw2) | (go_at_call 19; refine Calls.mono HD.out ?_; rintro e w' ⟨rfl, hw⟩; have hw2 := hw.symm; subst hw2))
  go_ret
  exact ⟨rfl, Below.refl _ _⟩

set_option maxHeartbeats 4000000 in
set_option maxRecDepth 20000 in
theorem lawF_main (zs : List Int) (ss : List ByteArray) (ka ta : Option Addr) (kl tl kc tc : Nat) (w : World) (hzl : zs.length = kl) (htl : ss.length = tl) (hk : IntSl w ka zs) (ht : StrSl w ta ss) (h : kl + tl + tot ss ≤ 1048576) (h1 : ¬ 65536 < kl) (h2 : ¬ 65536 < tl)
    (h3 : ¬ 1048576 < 8 * kl + 16 * tl + tot ss) :
    Calls Try.prog 9 #[.slice ka kl kc, .slice ta tl tc] w fun e w' => e = .returned (.bool true) ∧ Below w.heap.size w w' := by
  have C := bytesF_any zs ss ka ta kl tl kc tc w htl (by unfold maxLen; omega) (by unfold maxLen; omega) ht
  rw [decide_eq_true h] at C
  have HC : Hid _ := C
  have HD : Hid _ := tokBytes_any ss ka ta kl tl kc tc w htl h ht
  have HE : Hid _ := make_any zs ss ka ta kl tl kc tc w hzl htl (by omega) (by omega) hk ht
  clear C htl hzl ht hk
  go_enter Try.func9, Try.ntmps9
  go_wp2_with (first | (go_at_call 28; refine Calls.mono HC.out ?_; rintro e w' ⟨rfl, hw⟩; have hw2 := hw.symm; subst hw2) | (go_at_call 19; refine Calls.mono HD.out ?_; rintro e w' ⟨rfl, hw⟩; have hw2 := hw.symm; subst hw2))
  refine Calls.mono HE.out ?_
  rintro e w1 ⟨T, rfl, hT1, hT2, hb1, hlt1⟩
  have HT1 : Hid _ := hT2
  obtain ⟨N, hN⟩ : ∃ N, T.length = N := ⟨_, rfl⟩
  rw [hN] at hT1 ⊢
  have HN : Hid _ := hN
  clear hT2 hN HC HD HE
  go_wp2
  go_loopw [6] (fun k' wr => ∃ k : Nat, k ≤ N ∧ k' = .int .i64 k ∧ Below w1.heap.size w1 wr ∧ ∀ j t, j < k → T[j]? = some t → Mild t) (fun k' _ => N - (intOf k').toNat)
  case atStart => exact ⟨0, Nat.zero_le _, rfl, Below.refl _ _, fun j t hj => by omega⟩
  case round =>
    obtain ⟨k, hk, rfl, hbr, hall⟩ := hrel
    have HA : Hid _ := hall
    clear hall
    by_cases hlt : k < N
    · obtain ⟨t, htk⟩ : ∃ t, T[k]? = some t := ⟨_, List.getElem?_eq_getElem (by rw [HN.out]; exact hlt)⟩
      obtain ⟨q0, q1, q2⟩ := tok_atF (TokSl.below HT1.out hbr) htk
      have c0 : ∀ x : Kin wr, x.at_.cell? ⟨w.heap.size, k * 3, none⟩ = some (.int .i64 t.kind) := fun x => x.cell q0
      have c1 : ∀ x : Kin wr, x.at_.cell? ⟨w.heap.size, k * 3 + 1, none⟩ = some (.string t.text) := fun x => x.cell q1
      have c2 : ∀ x : Kin wr, x.at_.cell? ⟨w.heap.size, k * 3 + 2, none⟩ = some (.int .i64 t.line) := fun x => x.cell q2
      have HTK : Hid _ := htk
      have hkI : (k : Int) < (N : Int) := by omega
      clear htk
      by_cases hop : (t.isOp bOpen || t.isOp bSqOpen) = true
      · go_wp2_with (first | (go_at_call 29; refine (zopens_any _ _).mono ?_; rintro e w9 ⟨rfl, hb⟩; first | obtain ⟨y, rfl⟩ := kin_next hb | obtain ⟨y, rfl⟩ := kin_first hb) | (go_at_call 30; refine (zcloses_any _ _).mono ?_; rintro e w9 ⟨rfl, hb⟩; first | obtain ⟨y, rfl⟩ := kin_next hb | obtain ⟨y, rfl⟩ := kin_first hb) | (go_at_call 25; refine (zisWord_any _ _ _).mono ?_; rintro e w9 ⟨rfl, hb⟩; first | obtain ⟨y, rfl⟩ := kin_next hb | obtain ⟨y, rfl⟩ := kin_first hb))
        go_ret
        exact ⟨rfl, below_next hb1 (Nat.le_refl _) (below_next hbr (Nat.le_refl _) y.holds)⟩
      · simp only [Bool.not_eq_true] at hop
        by_cases hcl : (t.isOp bClose || t.isOp bSqClose) = true
        · go_wp2_with (first | (go_at_call 29; refine (zopens_any _ _).mono ?_; rintro e w9 ⟨rfl, hb⟩; first | obtain ⟨y, rfl⟩ := kin_next hb | obtain ⟨y, rfl⟩ := kin_first hb) | (go_at_call 30; refine (zcloses_any _ _).mono ?_; rintro e w9 ⟨rfl, hb⟩; first | obtain ⟨y, rfl⟩ := kin_next hb | obtain ⟨y, rfl⟩ := kin_first hb) | (go_at_call 25; refine (zisWord_any _ _ _).mono ?_; rintro e w9 ⟨rfl, hb⟩; first | obtain ⟨y, rfl⟩ := kin_next hb | obtain ⟨y, rfl⟩ := kin_first hb))
          go_ret
          exact ⟨rfl, below_next hb1 (Nat.le_refl _) (below_next hbr (Nat.le_refl _) y.holds)⟩
        · simp only [Bool.not_eq_true] at hcl
          by_cases hbt : t.isWord bBetween = true
          · go_wp2_with (first | (go_at_call 29; refine (zopens_any _ _).mono ?_; rintro e w9 ⟨rfl, hb⟩; first | obtain ⟨y, rfl⟩ := kin_next hb | obtain ⟨y, rfl⟩ := kin_first hb) | (go_at_call 30; refine (zcloses_any _ _).mono ?_; rintro e w9 ⟨rfl, hb⟩; first | obtain ⟨y, rfl⟩ := kin_next hb | obtain ⟨y, rfl⟩ := kin_first hb) | (go_at_call 25; refine (zisWord_any _ _ _).mono ?_; rintro e w9 ⟨rfl, hb⟩; first | obtain ⟨y, rfl⟩ := kin_next hb | obtain ⟨y, rfl⟩ := kin_first hb))
            go_ret
            exact ⟨rfl, below_next hb1 (Nat.le_refl _) (below_next hbr (Nat.le_refl _) y.holds)⟩
          · simp only [Bool.not_eq_true] at hbt
            have HOP : Hid _ := hop
            go_wp2_with (first | (go_at_call 29; refine (zopens_any _ _).mono ?_; rintro e w9 ⟨rfl, hb⟩; first | obtain ⟨y, rfl⟩ := kin_next hb | obtain ⟨y, rfl⟩ := kin_first hb) | (go_at_call 30; refine (zcloses_any _ _).mono ?_; rintro e w9 ⟨rfl, hb⟩; first | obtain ⟨y, rfl⟩ := kin_next hb | obtain ⟨y, rfl⟩ := kin_first hb) | (go_at_call 25; refine (zisWord_any _ _ _).mono ?_; rintro e w9 ⟨rfl, hb⟩; first | obtain ⟨y, rfl⟩ := kin_next hb | obtain ⟨y, rfl⟩ := kin_first hb))
            go_roundw
            case rel =>
              refine ⟨k + 1, by omega, by go_num, below_next hbr (Nat.le_refl _) y.holds, fun j t' hj hjt => ?_⟩
              by_cases e : j = k
              · subst e
                have := HTK.out
                rw [hjt] at this
                cases this
                have h12 := Bool.or_eq_false_iff.1 HOP.out
                exact ⟨h12.1, h12.2, hbt⟩
              · exact HA.out j t' (by omega) hjt
            case measure => simp [intOf]; omega
    · obtain rfl : k = N := by omega
      have mild : Hid (∀ (j : Nat) (t : Tok), T[j]? = some t → Mild t) := fun j t hj => HA.out j t (by have := (List.getElem?_eq_some_iff.1 hj).1; rw [HN.out] at this; exact this) hj
      go_wp2_with fail
      refine Calls.mono (zconj_any T _ k _ HN.out hT1 (TokSl.below HT1.out hbr) mild.out) ?_
      rintro e w2 ⟨v, rfl, hown, hb2⟩
      obtain ⟨ao, cap, hv, hview⟩ := own_view hown
      have hbw : Below w.heap.size w w2 := below_next (below_next hb1 (Nat.le_refl _) hbr) (Nat.le_refl _) hb2
      have HT2 : Hid _ := TokSl.below HT1.out (below_next hbr (Nat.le_refl _) hb2)
      have HV : Hid _ := hview
      have hRl := and_le T (k + 1)
      clear hown hview HT1 hb1 hb2 HA mild hbr
      subst hv
      go_wp2
      go_loopw [8, 9, 10] (fun n' s' i' wr => ∃ i : Nat, i ≤ k + 1 ∧ i' = .int .i64 i ∧ s' = .int .i64 (andTo T i).1 ∧ n' = .int .i64 (andTo T i).2.length ∧ Below w2.heap.size w2 wr) (fun _ _ i' _ => k + 1 - (intOf i').toNat)
      case atStart => exact ⟨0, Nat.zero_le _, rfl, rfl, rfl, Below.refl _ _⟩
      case round =>
        obtain ⟨i, hi, rfl, rfl, rfl, hbi⟩ := hrel
        have hle := and_le T i
        have hcnt := and_count T i (k + 1) hi
        generalize hS : (andTo T i).1 = s at *
        generalize hNN : (andTo T i).2.length = n at *
        have HS : Hid _ := hS
        have HNN : Hid _ := hNN
        clear hS hNN
        by_cases hik : i ≤ k
        · by_cases hieq : ((i : Int) == (k : Int)) = true
          · have hcut : andAt T i = true := by
              have e := beq_iff_eq.1 hieq
              unfold andAt
              rw [List.getElem?_eq_none (by rw [HN.out]; omega)]
            have HCA : Hid _ := hcut
            clear hcut
            have HAT : Hid ((andTo T (k + 1)).2[n]? = some (s, i)) := by
              have := and_at T i (k + 1) (by omega) HCA.out
              rw [HS.out, HNN.out] at this
              exact this
            by_cases hks : s < k
            · have hksN : ¬ k = s := by omega
              obtain ⟨g, rfl, hc0⟩ := HV.out n (ptV w.heap.size k (s, i)) (by rw [List.getElem?_map, ← HNN.out, ← HS.out, and_at T i (k + 1) (by omega) HCA.out]; rfl)
              have hnL : n < (andTo T (k + 1)).2.length := by rw [← HNN.out]; have := (List.getElem?_eq_some_iff.1 (and_at T i (k + 1) (by omega) HCA.out)).1; exact this
              have hnI : (n : Int) < ((andTo T (k + 1)).2.length : Int) := by omega
              have hsle : (s : Int) ≤ (i : Int) := by omega
              have hile : (i : Int) ≤ (k : Int) := by omega
              have hlen : ((T.drop s).take (i - s)).length = i - s := by rw [List.length_take, List.length_drop, HN.out]; omega
              have HL2 : Hid _ := hlen
              clear hlen
              go_wp2
              have hbW : Below w2.heap.size w2 wr := hbi
              have hcW : ∀ x : Kin wr, x.at_.cell? ⟨g, n, none⟩ = some (.slice (some ⟨w.heap.size, s * 3, none⟩) (i - s) (k - s)) := fun x => x.cell (((hbW.cell (World.block_lt_of_cell? w2 _ hc0)).trans hc0).trans (by unfold ptV; simp only; rw [if_neg hksN]))
              have HTW : Hid (∀ x : Kin wr, TokSl x.at_ (some ⟨w.heap.size, s * 3, none⟩) ((T.drop s).take (i - s))) := fun x => by
                obtain ⟨o, ho, ht⟩ := part_view (TokSl.below HT2.out (below_next hbW (Nat.le_refl _) x.holds)) HN.out (s, i) (by show s ≤ i; omega) (by show i ≤ k; omega)
                have : o = s * 3 := by
                  unfold ptV at ho
                  simp only [Value.slice.injEq, Option.some.injEq, Addr.mk.injEq, and_true, true_and] at ho
                  rw [← ho]
                  rw [if_neg hksN]
                rw [← this]
                exact ht
              have hne : Nonempty (Kin wr) := ⟨⟨_, Below.refl _ _⟩⟩
              clear hc0 HV
              refine wp_region_kin (by kernel_rfl) (by kernel_rfl) ?_
              repeat (go_big_quiet_step ((go_at_call 26; exact Calls.kin_of (sameToks_self ((T.drop s).take (i - s)) _ _ _ _ _ _ HL2.out (by omega) (HTW.out _) (HTW.out _)))))
              refine wpQuiet_nil ?_
              rintro _ ⟨x, rfl⟩
              have hx : Below w2.heap.size w2 x.at_ := below_next hbW (Nat.le_refl _) x.holds
              clear hcW HTW hne
              go_wp2
              go_roundw
              case rel =>
                refine ⟨i + 1, by omega, by go_num, ?_, ?_, hx⟩
                · rw [and_cut HCA.out]; go_num
                · rw [and_cut HCA.out, List.length_append, HNN.out]; go_num
              case measure => simp [intOf]; omega
            · obtain rfl : k = s := by omega
              obtain rfl : k = i := by omega
              obtain ⟨g, rfl, hc0⟩ := HV.out n (ptV w.heap.size k (k, k)) (by rw [List.getElem?_map, HAT.out]; rfl)
              have hnL : n < (andTo T (k + 1)).2.length := (List.getElem?_eq_some_iff.1 HAT.out).1
              have hnI : (n : Int) < ((andTo T (k + 1)).2.length : Int) := by omega
              have ecell : ptV w.heap.size k (k, k) = .slice (some ⟨w.heap.size, 0, none⟩) 0 0 := by unfold ptV; simp
              rw [ecell] at hc0
              clear ecell
              go_wp2
              have hcW : ∀ x : Kin wr, x.at_.cell? ⟨g, n, none⟩ = some (.slice (some ⟨w.heap.size, 0, none⟩) 0 0) := fun x => x.cell ((hbi.cell (World.block_lt_of_cell? w2 _ hc0)).trans hc0)
              have hne : Nonempty (Kin wr) := ⟨⟨_, Below.refl _ _⟩⟩
              clear hc0 HV
              refine wp_region_kin (by kernel_rfl) (by kernel_rfl) ?_
              repeat (go_big_quiet_step ((go_at_call 26; exact Calls.kin_of (sameToks_self [] _ _ _ _ _ _ rfl (by omega) (fun i t hi => by simp at hi) (fun i t hi => by simp at hi)))))
              refine wpQuiet_nil ?_
              rintro _ ⟨x, rfl⟩
              have hx : Below w2.heap.size w2 x.at_ := below_next hbi (Nat.le_refl _) x.holds
              clear hcW hne
              go_wp2
              go_roundw
              case rel =>
                refine ⟨k + 1, by omega, by go_num, ?_, ?_, hx⟩
                · rw [and_cut HCA.out]; go_num
                · rw [and_cut HCA.out, List.length_append, HNN.out]; go_num
              case measure => simp [intOf]
          · simp only [Bool.not_eq_true] at hieq
            have hik2 : i < k := by have := beq_eq_false_iff_ne.1 hieq; omega
            obtain ⟨t, htk⟩ : ∃ t, T[i]? = some t := ⟨_, List.getElem?_eq_getElem (by rw [HN.out]; exact hik2)⟩
            obtain ⟨q0, q1, q2⟩ := tok_atF (TokSl.below HT2.out hbi) htk
            have hca : Hid _ := andAt_some htk
            have hiI : (i : Int) < (k : Int) := by omega
            clear htk
            by_cases hsc : t.isWord bAnd = true
            · have HCA : Hid (andAt T i = true) := by show andAt T i = true; rw [hca.out]; exact hsc
              clear hca
              have hksN : ¬ k = s := by omega
              obtain ⟨g, rfl, hc0⟩ := HV.out n (ptV w.heap.size k (s, i)) (by rw [List.getElem?_map, ← HNN.out, ← HS.out, and_at T i (k + 1) (by omega) HCA.out]; rfl)
              have hnL : n < (andTo T (k + 1)).2.length := by rw [← HNN.out]; have := (List.getElem?_eq_some_iff.1 (and_at T i (k + 1) (by omega) HCA.out)).1; exact this
              have hnI : (n : Int) < ((andTo T (k + 1)).2.length : Int) := by omega
              have hsle : (s : Int) ≤ (i : Int) := by omega
              have hile : (i : Int) ≤ (k : Int) := by omega
              have hlen : ((T.drop s).take (i - s)).length = i - s := by rw [List.length_take, List.length_drop, HN.out]; omega
              have HL2 : Hid _ := hlen
              clear hlen
              go_wp2_with (go_at_call 25; refine (zisWord_any _ _ _).mono ?_; rintro e w9 ⟨rfl, hb⟩; first | obtain ⟨y, rfl⟩ := kin_next hb | obtain ⟨y, rfl⟩ := kin_first hb)
              have hbW : Below w2.heap.size w2 y.at_ := below_next hbi (Nat.le_refl _) y.holds
              have hcW : ∀ x : Kin y.at_, x.at_.cell? ⟨g, n, none⟩ = some (.slice (some ⟨w.heap.size, s * 3, none⟩) (i - s) (k - s)) := fun x => x.cell (((hbW.cell (World.block_lt_of_cell? w2 _ hc0)).trans hc0).trans (by unfold ptV; simp only; rw [if_neg hksN]))
              have HTW : Hid (∀ x : Kin y.at_, TokSl x.at_ (some ⟨w.heap.size, s * 3, none⟩) ((T.drop s).take (i - s))) := fun x => by
                obtain ⟨o, ho, ht⟩ := part_view (TokSl.below HT2.out (below_next hbW (Nat.le_refl _) x.holds)) HN.out (s, i) (by show s ≤ i; omega) (by show i ≤ k; omega)
                have : o = s * 3 := by
                  unfold ptV at ho
                  simp only [Value.slice.injEq, Option.some.injEq, Addr.mk.injEq, and_true, true_and] at ho
                  rw [← ho]
                  rw [if_neg hksN]
                rw [← this]
                exact ht
              have hne : Nonempty (Kin y.at_) := ⟨⟨_, Below.refl _ _⟩⟩
              clear hc0 HV
              refine wp_region_kin (by kernel_rfl) (by kernel_rfl) ?_
              repeat (go_big_quiet_step ((go_at_call 26; exact Calls.kin_of (sameToks_self ((T.drop s).take (i - s)) _ _ _ _ _ _ HL2.out (by omega) (HTW.out _) (HTW.out _)))))
              refine wpQuiet_nil ?_
              rintro _ ⟨x, rfl⟩
              have hx : Below w2.heap.size w2 x.at_ := below_next hbW (Nat.le_refl _) x.holds
              clear hcW HTW hne
              go_wp2
              go_roundw
              case rel =>
                refine ⟨i + 1, by omega, by go_num, ?_, ?_, hx⟩
                · rw [and_cut HCA.out]; go_num
                · rw [and_cut HCA.out, List.length_append, HNN.out]; go_num
              case measure => simp [intOf]; omega
            · simp only [Bool.not_eq_true] at hsc
              have HCA : Hid (andAt T i = false) := by show andAt T i = false; rw [hca.out]; exact hsc
              clear hca
              go_wp2_with (go_at_call 25; refine (zisWord_any _ _ _).mono ?_; rintro e w9 ⟨rfl, hb⟩; first | obtain ⟨y, rfl⟩ := kin_next hb | obtain ⟨y, rfl⟩ := kin_first hb)
              go_roundw
              case rel => exact ⟨i + 1, by omega, by go_num, by rw [and_no HCA.out, HS.out], by rw [and_no HCA.out, HNN.out], below_next hbi (Nat.le_refl _) y.holds⟩
              case measure => simp [intOf]; omega
        · obtain rfl : i = k + 1 := by omega
          have hee : ((n : Int) == ((andTo T (k + 1)).2.length : Int)) = true := by rw [HNN.out]; simp
          have hkI : ¬ (k : Int) + 1 ≤ (k : Int) := by omega
          go_wp2
          go_ret
          exact ⟨rfl, below_next hbw (Nat.le_refl _) hbi⟩

end Go.Proofs.Qxb6001401a
