/- The walk of FnSplitWithoutParenthesesOrBeginCutsAtEverySemicolon. -/
import Derived.Test.Qxb6001401aRuns
set_option linter.unusedSimpArgs false
set_option linter.unusedVariables false
namespace Go.Proofs.Qxb6001401a
open Go.ChangeShapes Go.WideShapes Go.ChangeAt Go.RowKit

theorem tok_atE {w : World} {B : Nat} {T : List Tok} (h : TokSl w (some ⟨B, 0, none⟩) T) {k : Nat} {t : Tok} (hk : T[k]? = some t) : TokHere w B (k * 3) t := by
  obtain ⟨b, o, e, ht⟩ := h k t hk
  obtain ⟨rfl, rfl⟩ : B = b ∧ 0 = o := by simpa using e
  rw [Nat.zero_add] at ht
  exact ht

theorem lawE_long (zs : List Int) (ss : List ByteArray) (ka ta : Option Addr) (kl tl kc tc : Nat) (w : World) (htl : ss.length = tl) (hk1 : kl ≤ maxLen) (hk2 : tl ≤ maxLen) (ht : StrSl w ta ss) (h : ¬ kl + tl + tot ss ≤ 1048576) :
    Calls Try.prog 7 #[.slice ka kl kc, .slice ta tl tc] w fun e w' => e = .returned (.bool true) ∧ Below w.heap.size w w' := by
  have C := bytesE_any zs ss ka ta kl tl kc tc w htl hk1 hk2 ht
  rw [decide_eq_false h] at C
  have HC : Hid _ := C
  clear C htl ht
  go_enter Try.func7, Try.ntmps7
  go_wp2_with (go_at_call 24; refine Calls.mono HC.out ?_; rintro e w' ⟨rfl, rfl⟩)
  go_ret
  exact ⟨rfl, Below.refl _ _⟩

theorem lawE_many (zs : List Int) (ss : List ByteArray) (ka ta : Option Addr) (kl tl kc tc : Nat) (w : World) (htl : ss.length = tl) (hk1 : kl ≤ maxLen) (hk2 : tl ≤ maxLen) (ht : StrSl w ta ss) (h : kl + tl + tot ss ≤ 1048576) (h2 : 65536 < kl ∨ 65536 < tl) :
    Calls Try.prog 7 #[.slice ka kl kc, .slice ta tl tc] w fun e w' => e = .returned (.bool true) ∧ Below w.heap.size w w' := by
  have C := bytesE_any zs ss ka ta kl tl kc tc w htl hk1 hk2 ht
  rw [decide_eq_true h] at C
  have HC : Hid _ := C
  clear C htl ht
  by_cases h1 : 65536 < kl
  · clear h2
    go_enter Try.func7, Try.ntmps7
    go_wp2_with (go_at_call 24; refine Calls.mono HC.out ?_; rintro e w' ⟨rfl, rfl⟩)
    go_ret
    exact ⟨rfl, Below.refl _ _⟩
  · have h3 : 65536 < tl := by omega
    clear h2
    go_enter Try.func7, Try.ntmps7
    go_wp2_with (go_at_call 24; refine Calls.mono HC.out ?_; rintro e w' ⟨rfl, rfl⟩)
    go_ret
    exact ⟨rfl, Below.refl _ _⟩

theorem lawE_big (zs : List Int) (ss : List ByteArray) (ka ta : Option Addr) (kl tl kc tc : Nat) (w : World) (htl : ss.length = tl) (hk1 : kl ≤ maxLen) (hk2 : tl ≤ maxLen) (ht : StrSl w ta ss) (h : kl + tl + tot ss ≤ 1048576) (h1 : ¬ 65536 < kl) (h2 : ¬ 65536 < tl)
    (h3 : 1048576 < 8 * kl + 16 * tl + tot ss) :
    Calls Try.prog 7 #[.slice ka kl kc, .slice ta tl tc] w fun e w' => e = .returned (.bool true) ∧ Below w.heap.size w w' := by
  have C := bytesE_any zs ss ka ta kl tl kc tc w htl hk1 hk2 ht
  rw [decide_eq_true h] at C
  have HC : Hid _ := C
  have HD : Hid _ := tokBytes_any ss ka ta kl tl kc tc w htl h ht
  clear C htl ht
  go_enter Try.func7, Try.ntmps7
  go_wp2_with (first | (go_at_call 24; refine Calls.mono HC.out ?_; rintro e w' ⟨rfl, hw⟩; have hw2 := hw.symm; subst hw2) | (go_at_call 19; refine Calls.mono HD.out ?_; rintro e w' ⟨rfl, hw⟩; have hw2 := hw.symm; subst hw2))
  go_ret
  exact ⟨rfl, Below.refl _ _⟩

set_option maxHeartbeats 4000000 in
set_option maxRecDepth 20000 in
theorem lawE_main (zs : List Int) (ss : List ByteArray) (ka ta : Option Addr) (kl tl kc tc : Nat) (w : World) (hzl : zs.length = kl) (htl : ss.length = tl) (hk : IntSl w ka zs) (ht : StrSl w ta ss) (h : kl + tl + tot ss ≤ 1048576) (h1 : ¬ 65536 < kl) (h2 : ¬ 65536 < tl)
    (h3 : ¬ 1048576 < 8 * kl + 16 * tl + tot ss) :
    Calls Try.prog 7 #[.slice ka kl kc, .slice ta tl tc] w fun e w' => e = .returned (.bool true) ∧ Below w.heap.size w w' := by
  have C := bytesE_any zs ss ka ta kl tl kc tc w htl (by unfold maxLen; omega) (by unfold maxLen; omega) ht
  rw [decide_eq_true h] at C
  have HC : Hid _ := C
  have HD : Hid _ := tokBytes_any ss ka ta kl tl kc tc w htl h ht
  have HE : Hid _ := make_any zs ss ka ta kl tl kc tc w hzl htl (by omega) (by omega) hk ht
  clear C htl hzl ht hk
  go_enter Try.func7, Try.ntmps7
  go_wp2_with (first | (go_at_call 24; refine Calls.mono HC.out ?_; rintro e w' ⟨rfl, hw⟩; have hw2 := hw.symm; subst hw2) | (go_at_call 19; refine Calls.mono HD.out ?_; rintro e w' ⟨rfl, hw⟩; have hw2 := hw.symm; subst hw2))
  refine Calls.mono HE.out ?_
  rintro e w1 ⟨T, rfl, hT1, hT2, hb1, hlt1⟩
  have HT1 : Hid _ := hT2
  obtain ⟨N, hN⟩ : ∃ N, T.length = N := ⟨_, rfl⟩
  rw [hN] at hT1 ⊢
  have HN : Hid _ := hN
  clear hT2 hN HC HD HE
  go_wp2
  go_loopw [6] (fun k' wr => ∃ k : Nat, k ≤ N ∧ k' = .int .i64 k ∧ Below w1.heap.size w1 wr ∧ ∀ j t, j < k → T[j]? = some t → t.isOp bOpen = false ∧ t.isWord bBegin = false) (fun k' _ => N - (intOf k').toNat)
  case atStart => exact ⟨0, Nat.zero_le _, rfl, Below.refl _ _, fun j t hj => by omega⟩
  case round =>
    obtain ⟨k, hk, rfl, hbr, hall⟩ := hrel
    have HA : Hid _ := hall
    clear hall
    by_cases hlt : k < N
    · obtain ⟨t, htk⟩ : ∃ t, T[k]? = some t := ⟨_, List.getElem?_eq_getElem (by rw [HN.out]; exact hlt)⟩
      obtain ⟨q0, q1, q2⟩ := tok_atE (TokSl.below HT1.out hbr) htk
      have c0 : ∀ x : Kin wr, x.at_.cell? ⟨w.heap.size, k * 3, none⟩ = some (.int .i64 t.kind) := fun x => x.cell q0
      have c1 : ∀ x : Kin wr, x.at_.cell? ⟨w.heap.size, k * 3 + 1, none⟩ = some (.string t.text) := fun x => x.cell q1
      have c2 : ∀ x : Kin wr, x.at_.cell? ⟨w.heap.size, k * 3 + 2, none⟩ = some (.int .i64 t.line) := fun x => x.cell q2
      have HTK : Hid _ := htk
      have hkI : (k : Int) < (N : Int) := by omega
      clear htk
      by_cases hop : t.isOp bOpen = true
      · go_wp2_with (first | (go_at_call 22; refine (zisOp_any _ _ _).mono ?_; rintro e w9 ⟨rfl, hb⟩; first | obtain ⟨y, rfl⟩ := kin_next hb | obtain ⟨y, rfl⟩ := kin_first hb) | (go_at_call 25; refine (zisWord_any _ _ _).mono ?_; rintro e w9 ⟨rfl, hb⟩; first | obtain ⟨y, rfl⟩ := kin_next hb | obtain ⟨y, rfl⟩ := kin_first hb))
        go_ret
        exact ⟨rfl, below_next hb1 (Nat.le_refl _) (below_next hbr (Nat.le_refl _) y.holds)⟩
      · simp only [Bool.not_eq_true] at hop
        by_cases hbg : t.isWord bBegin = true
        · go_wp2_with (first | (go_at_call 22; refine (zisOp_any _ _ _).mono ?_; rintro e w9 ⟨rfl, hb⟩; first | obtain ⟨y, rfl⟩ := kin_next hb | obtain ⟨y, rfl⟩ := kin_first hb) | (go_at_call 25; refine (zisWord_any _ _ _).mono ?_; rintro e w9 ⟨rfl, hb⟩; first | obtain ⟨y, rfl⟩ := kin_next hb | obtain ⟨y, rfl⟩ := kin_first hb))
          go_ret
          exact ⟨rfl, below_next hb1 (Nat.le_refl _) (below_next hbr (Nat.le_refl _) y.holds)⟩
        · simp only [Bool.not_eq_true] at hbg
          go_wp2_with (first | (go_at_call 22; refine (zisOp_any _ _ _).mono ?_; rintro e w9 ⟨rfl, hb⟩; first | obtain ⟨y, rfl⟩ := kin_next hb | obtain ⟨y, rfl⟩ := kin_first hb) | (go_at_call 25; refine (zisWord_any _ _ _).mono ?_; rintro e w9 ⟨rfl, hb⟩; first | obtain ⟨y, rfl⟩ := kin_next hb | obtain ⟨y, rfl⟩ := kin_first hb))
          go_roundw
          case rel =>
            refine ⟨k + 1, by omega, by go_num, below_next hbr (Nat.le_refl _) y.holds, fun j t' hj hjt => ?_⟩
            by_cases e : j = k
            · subst e
              have := HTK.out
              rw [hjt] at this
              cases this
              exact ⟨hop, hbg⟩
            · exact HA.out j t' (by omega) hjt
          case measure => simp [intOf]; omega
    · obtain rfl : k = N := by omega
      have tame : Hid (Tame T) := fun j t hj => HA.out j t (by have := (List.getElem?_eq_some_iff.1 hj).1; rw [HN.out] at this; exact this) hj
      go_wp2_with fail
      refine Calls.mono (zsplit_any T _ k (RunI T) _ HN.out hT1 (TokSl.below HT1.out hbr) (runI_inv T tame.out)) ?_
      rintro e w2 ⟨v, s, p, b, acc, rfl, hcut, hs, hown, hlen, hb2⟩
      have e1 := runs_of T k s p b acc HN.out hcut
      rw [e1] at hown
      clear e1 hcut hs hlen
      obtain ⟨ao, cap, hv, hview⟩ := own_view hown
      have hbw : Below w.heap.size w w2 := below_next (below_next hb1 (Nat.le_refl _) hbr) (Nat.le_refl _) hb2
      have HT2 : Hid _ := TokSl.below HT1.out (below_next hbr (Nat.le_refl _) hb2)
      have HV : Hid _ := hview
      have hRl := runs_le T (k + 1)
      clear hown hview HT1 hb1 hb2 HA tame hbr
      subst hv
      go_wp2
      go_loopw [8, 9, 10] (fun n' s' i' wr => ∃ i : Nat, i ≤ k + 1 ∧ i' = .int .i64 i ∧ s' = .int .i64 (runsTo T i).1 ∧ n' = .int .i64 (runsTo T i).2.length ∧ Below w2.heap.size w2 wr) (fun _ _ i' _ => k + 1 - (intOf i').toNat)
      case atStart => exact ⟨0, Nat.zero_le _, rfl, rfl, rfl, Below.refl _ _⟩
      case round =>
        obtain ⟨i, hi, rfl, rfl, rfl, hbi⟩ := hrel
        have hle := runs_le T i
        have hcnt := runs_count T i (k + 1) hi
        generalize hS : (runsTo T i).1 = s at *
        generalize hNN : (runsTo T i).2.length = n at *
        have HS : Hid _ := hS
        have HNN : Hid _ := hNN
        clear hS hNN
        by_cases hik : i ≤ k
        · by_cases hieq : ((i : Int) == (k : Int)) = true
          · have hcut : cutAt T i = true := by
              have e := beq_iff_eq.1 hieq
              unfold cutAt
              rw [List.getElem?_eq_none (by rw [HN.out]; omega)]
            have HCA : Hid _ := hcut
            clear hcut
            by_cases hsi : s < i
            · obtain ⟨g, rfl, hc0⟩ := HV.out n (stV w.heap.size k (s, i)) (by rw [List.getElem?_map, ← HNN.out, ← HS.out, runs_at T i (k + 1) (by omega) HCA.out (by rw [HS.out]; exact hsi)]; rfl)
              have hnL : n < (runsTo T (k + 1)).2.length := by rw [← HNN.out]; have := (List.getElem?_eq_some_iff.1 (runs_at T i (k + 1) (by omega) HCA.out (by rw [HS.out]; exact hsi))).1; exact this
              have hnI : (n : Int) < ((runsTo T (k + 1)).2.length : Int) := by omega
              have hsI : (s : Int) < (i : Int) := by omega
              have hsle : (s : Int) ≤ (i : Int) := by omega
              have hile : (i : Int) ≤ (k : Int) := by omega
              have hlen : ((T.drop s).take (i - s)).length = i - s := by rw [List.length_take, List.length_drop, HN.out]; omega
              have HL2 : Hid _ := hlen
              clear hlen
              go_wp2
              have hbW : Below w2.heap.size w2 wr := hbi
              have hcW : ∀ x : Kin wr, x.at_.cell? ⟨g, n, none⟩ = some (.slice (some ⟨w.heap.size, s * 3, none⟩) (i - s) (k - s)) := fun x => x.cell ((hbW.cell (World.block_lt_of_cell? w2 _ hc0)).trans hc0)
              have HTW : Hid (∀ x : Kin wr, TokSl x.at_ (some ⟨w.heap.size, s * 3, none⟩) ((T.drop s).take (i - s))) := fun x => TokSl.part (TokSl.below HT2.out (below_next hbW (Nat.le_refl _) x.holds)) s (i - s)
              have hne : Nonempty (Kin wr) := ⟨⟨_, Below.refl _ _⟩⟩
              clear hc0 HV
              refine wp_region_kin (by kernel_rfl) (by kernel_rfl) ?_
              repeat (go_big_quiet_step ((go_at_call 26; exact Calls.kin_of (sameToks_self ((T.drop s).take (i - s)) _ _ _ _ _ _ HL2.out (by omega) (HTW.out _) (HTW.out _)))))
              refine wpQuiet_nil ?_
              rintro _ ⟨x, rfl⟩
              have hx : Below w2.heap.size w2 x.at_ := below_next hbW (Nat.le_refl _) x.holds
              clear hcW HTW hne
              go_wp2
              go_roundw
              case rel =>
                refine ⟨i + 1, by omega, by go_num, ?_, ?_, hx⟩
                · rw [runs_cut HCA.out (by rw [HS.out]; exact hsi)]; go_num
                · rw [runs_cut HCA.out (by rw [HS.out]; exact hsi), List.length_append, HNN.out]; go_num
              case measure => simp [intOf]; omega
            · have hsI : ¬ (s : Int) < (i : Int) := by omega
              go_wp2
              go_roundw
              case rel =>
                refine ⟨i + 1, by omega, by go_num, ?_, ?_, hbi⟩
                · rw [runs_skip HCA.out (by rw [HS.out]; exact hsi)]; go_num
                · rw [runs_skip HCA.out (by rw [HS.out]; exact hsi), HNN.out]
              case measure => simp [intOf]; omega
          · simp only [Bool.not_eq_true] at hieq
            have hik2 : i < k := by have := beq_eq_false_iff_ne.1 hieq; omega
            obtain ⟨t, htk⟩ : ∃ t, T[i]? = some t := ⟨_, List.getElem?_eq_getElem (by rw [HN.out]; exact hik2)⟩
            obtain ⟨q0, q1, q2⟩ := tok_atE (TokSl.below HT2.out hbi) htk
            have hca : Hid _ := cutAt_some htk
            have hiI : (i : Int) < (k : Int) := by omega
            clear htk
            by_cases hsc : t.isOp bSemi = true
            · have HCA : Hid (cutAt T i = true) := by show cutAt T i = true; rw [hca.out]; exact hsc
              clear hca
              by_cases hsi : s < i
              · obtain ⟨g, rfl, hc0⟩ := HV.out n (stV w.heap.size k (s, i)) (by rw [List.getElem?_map, ← HNN.out, ← HS.out, runs_at T i (k + 1) (by omega) HCA.out (by rw [HS.out]; exact hsi)]; rfl)
                have hnL : n < (runsTo T (k + 1)).2.length := by rw [← HNN.out]; have := (List.getElem?_eq_some_iff.1 (runs_at T i (k + 1) (by omega) HCA.out (by rw [HS.out]; exact hsi))).1; exact this
                have hnI : (n : Int) < ((runsTo T (k + 1)).2.length : Int) := by omega
                have hsI : (s : Int) < (i : Int) := by omega
                have hsle : (s : Int) ≤ (i : Int) := by omega
                have hile : (i : Int) ≤ (k : Int) := by omega
                have hlen : ((T.drop s).take (i - s)).length = i - s := by rw [List.length_take, List.length_drop, HN.out]; omega
                have HL2 : Hid _ := hlen
                clear hlen
                go_wp2_with (go_at_call 22; refine (zisOp_any _ _ _).mono ?_; rintro e w9 ⟨rfl, hb⟩; first | obtain ⟨y, rfl⟩ := kin_next hb | obtain ⟨y, rfl⟩ := kin_first hb)
                have hbW : Below w2.heap.size w2 y.at_ := below_next hbi (Nat.le_refl _) y.holds
                have hcW : ∀ x : Kin y.at_, x.at_.cell? ⟨g, n, none⟩ = some (.slice (some ⟨w.heap.size, s * 3, none⟩) (i - s) (k - s)) := fun x => x.cell ((hbW.cell (World.block_lt_of_cell? w2 _ hc0)).trans hc0)
                have HTW : Hid (∀ x : Kin y.at_, TokSl x.at_ (some ⟨w.heap.size, s * 3, none⟩) ((T.drop s).take (i - s))) := fun x => TokSl.part (TokSl.below HT2.out (below_next hbW (Nat.le_refl _) x.holds)) s (i - s)
                have hne : Nonempty (Kin y.at_) := ⟨⟨_, Below.refl _ _⟩⟩
                clear hc0 HV
                refine wp_region_kin (by kernel_rfl) (by kernel_rfl) ?_
                repeat (go_big_quiet_step ((go_at_call 26; exact Calls.kin_of (sameToks_self ((T.drop s).take (i - s)) _ _ _ _ _ _ HL2.out (by omega) (HTW.out _) (HTW.out _)))))
                refine wpQuiet_nil ?_
                rintro _ ⟨x, rfl⟩
                have hx : Below w2.heap.size w2 x.at_ := below_next hbW (Nat.le_refl _) x.holds
                clear hcW HTW hne
                go_wp2
                go_roundw
                case rel =>
                  refine ⟨i + 1, by omega, by go_num, ?_, ?_, hx⟩
                  · rw [runs_cut HCA.out (by rw [HS.out]; exact hsi)]; go_num
                  · rw [runs_cut HCA.out (by rw [HS.out]; exact hsi), List.length_append, HNN.out]; go_num
                case measure => simp [intOf]; omega
              · have hsI : ¬ (s : Int) < (i : Int) := by omega
                go_wp2_with (go_at_call 22; refine (zisOp_any _ _ _).mono ?_; rintro e w9 ⟨rfl, hb⟩; first | obtain ⟨y, rfl⟩ := kin_next hb | obtain ⟨y, rfl⟩ := kin_first hb)
                go_roundw
                case rel =>
                  refine ⟨i + 1, by omega, by go_num, ?_, ?_, below_next hbi (Nat.le_refl _) y.holds⟩
                  · rw [runs_skip HCA.out (by rw [HS.out]; exact hsi)]; go_num
                  · rw [runs_skip HCA.out (by rw [HS.out]; exact hsi), HNN.out]
                case measure => simp [intOf]; omega
            · simp only [Bool.not_eq_true] at hsc
              have HCA : Hid (cutAt T i = false) := by show cutAt T i = false; rw [hca.out]; exact hsc
              clear hca
              go_wp2_with (go_at_call 22; refine (zisOp_any _ _ _).mono ?_; rintro e w9 ⟨rfl, hb⟩; first | obtain ⟨y, rfl⟩ := kin_next hb | obtain ⟨y, rfl⟩ := kin_first hb)
              go_roundw
              case rel => exact ⟨i + 1, by omega, by go_num, by rw [runs_no HCA.out, HS.out], by rw [runs_no HCA.out, HNN.out], below_next hbi (Nat.le_refl _) y.holds⟩
              case measure => simp [intOf]; omega
        · obtain rfl : i = k + 1 := by omega
          have hee : ((n : Int) == ((runsTo T (k + 1)).2.length : Int)) = true := by rw [HNN.out]; simp
          have hkI : ¬ (k : Int) + 1 ≤ (k : Int) := by omega
          go_wp2
          go_ret
          exact ⟨rfl, below_next hbw (Nat.le_refl _) hbi⟩

end Go.Proofs.Qxb6001401a
