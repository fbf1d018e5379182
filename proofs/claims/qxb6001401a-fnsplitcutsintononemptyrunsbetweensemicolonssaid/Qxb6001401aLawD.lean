/- The walk of FnSplitCutsIntoNonEmptyRunsBetweenSemicolons. -/
import Derived.Test.Qxb6001401aCut
set_option linter.unusedSimpArgs false
set_option linter.unusedVariables false
namespace Go.Proofs.Qxb6001401a
open Go.ChangeShapes Go.WideShapes Go.ChangeAt Go.RowKit

theorem tok_at {w : World} {B : Nat} {T : List Tok} (h : TokSl w (some ⟨B, 0, none⟩) T) {k : Nat} {t : Tok} (hk : T[k]? = some t) : TokHere w B (k * 3) t := by
  obtain ⟨b, o, e, ht⟩ := h k t hk
  obtain ⟨rfl, rfl⟩ : B = b ∧ 0 = o := by simpa using e
  rw [Nat.zero_add] at ht
  exact ht

theorem cut_at {T : List Tok} {N q k : Nat} {L : List (Nat × Nat)} (h : Cut T N q (L.drop k)) (hk : k < L.length) :
    ∃ s0 ln0, L[k]? = some (s0, s0 + ln0) ∧ 0 < ln0 ∧ SemiRun T q s0 ∧ s0 + ln0 ≤ N ∧ (∀ t, T[s0]? = some t → t.isOp bSemi = false) ∧ (∀ t, T[s0 + ln0]? = some t → t.isOp bSemi = true) ∧ Cut T N (s0 + ln0) (L.drop (k + 1)) := by
  rw [List.drop_eq_getElem_cons hk] at h
  obtain ⟨h1, h2, h3, h4, h5, h6⟩ := h
  have e : L[k].1 + (L[k].2 - L[k].1) = L[k].2 := by omega
  exact ⟨L[k].1, L[k].2 - L[k].1, by rw [e, List.getElem?_eq_getElem hk], by omega, h1, by omega, h4, by rw [e]; exact h5, by rw [e]; exact h6⟩

theorem lawD_long (zs : List Int) (ss : List ByteArray) (ka ta : Option Addr) (kl tl kc tc : Nat) (w : World) (htl : ss.length = tl) (hk1 : kl ≤ maxLen) (hk2 : tl ≤ maxLen) (ht : StrSl w ta ss) (h : ¬ kl + tl + tot ss ≤ 1048576) :
    Calls Try.prog 6 #[.slice ka kl kc, .slice ta tl tc] w fun e w' => e = .returned (.bool true) ∧ Below w.heap.size w w' := by
  have C := bytesD_any zs ss ka ta kl tl kc tc w htl hk1 hk2 ht
  rw [decide_eq_false h] at C
  have HC : Hid _ := C
  clear C htl ht
  go_enter Try.func6, Try.ntmps6
  go_wp2_with (go_at_call 18; refine Calls.mono HC.out ?_; rintro e w' ⟨rfl, rfl⟩)
  go_ret
  exact ⟨rfl, Below.refl _ _⟩

theorem lawD_many (zs : List Int) (ss : List ByteArray) (ka ta : Option Addr) (kl tl kc tc : Nat) (w : World) (htl : ss.length = tl) (hk1 : kl ≤ maxLen) (hk2 : tl ≤ maxLen) (ht : StrSl w ta ss) (h : kl + tl + tot ss ≤ 1048576) (h2 : 65536 < kl ∨ 65536 < tl) :
    Calls Try.prog 6 #[.slice ka kl kc, .slice ta tl tc] w fun e w' => e = .returned (.bool true) ∧ Below w.heap.size w w' := by
  have C := bytesD_any zs ss ka ta kl tl kc tc w htl hk1 hk2 ht
  rw [decide_eq_true h] at C
  have HC : Hid _ := C
  clear C htl ht
  by_cases h1 : 65536 < kl
  · clear h2
    go_enter Try.func6, Try.ntmps6
    go_wp2_with (go_at_call 18; refine Calls.mono HC.out ?_; rintro e w' ⟨rfl, rfl⟩)
    go_ret
    exact ⟨rfl, Below.refl _ _⟩
  · have h3 : 65536 < tl := by omega
    clear h2
    go_enter Try.func6, Try.ntmps6
    go_wp2_with (go_at_call 18; refine Calls.mono HC.out ?_; rintro e w' ⟨rfl, rfl⟩)
    go_ret
    exact ⟨rfl, Below.refl _ _⟩

theorem lawD_big (zs : List Int) (ss : List ByteArray) (ka ta : Option Addr) (kl tl kc tc : Nat) (w : World) (htl : ss.length = tl) (hk1 : kl ≤ maxLen) (hk2 : tl ≤ maxLen) (ht : StrSl w ta ss) (h : kl + tl + tot ss ≤ 1048576) (h1 : ¬ 65536 < kl) (h2 : ¬ 65536 < tl)
    (h3 : 1048576 < 8 * kl + 16 * tl + tot ss) :
    Calls Try.prog 6 #[.slice ka kl kc, .slice ta tl tc] w fun e w' => e = .returned (.bool true) ∧ Below w.heap.size w w' := by
  have C := bytesD_any zs ss ka ta kl tl kc tc w htl hk1 hk2 ht
  rw [decide_eq_true h] at C
  have HC : Hid _ := C
  have HD : Hid _ := tokBytes_any ss ka ta kl tl kc tc w htl h ht
  clear C htl ht
  go_enter Try.func6, Try.ntmps6
  go_wp2_with (first | (go_at_call 18; refine Calls.mono HC.out ?_; rintro e w' ⟨rfl, hw⟩; have hw2 := hw.symm; subst hw2) | (go_at_call 19; refine Calls.mono HD.out ?_; rintro e w' ⟨rfl, hw⟩; have hw2 := hw.symm; subst hw2))
  go_ret
  exact ⟨rfl, Below.refl _ _⟩

set_option maxHeartbeats 4000000 in
set_option maxRecDepth 20000 in
theorem lawD_main (zs : List Int) (ss : List ByteArray) (ka ta : Option Addr) (kl tl kc tc : Nat) (w : World) (hzl : zs.length = kl) (htl : ss.length = tl) (hk : IntSl w ka zs) (ht : StrSl w ta ss) (h : kl + tl + tot ss ≤ 1048576) (h1 : ¬ 65536 < kl) (h2 : ¬ 65536 < tl)
    (h3 : ¬ 1048576 < 8 * kl + 16 * tl + tot ss) :
    Calls Try.prog 6 #[.slice ka kl kc, .slice ta tl tc] w fun e w' => e = .returned (.bool true) ∧ Below w.heap.size w w' := by
  have C := bytesD_any zs ss ka ta kl tl kc tc w htl (by unfold maxLen; omega) (by unfold maxLen; omega) ht
  rw [decide_eq_true h] at C
  have HC : Hid _ := C
  have HD : Hid _ := tokBytes_any ss ka ta kl tl kc tc w htl h ht
  have HE : Hid _ := make_any zs ss ka ta kl tl kc tc w hzl htl (by omega) (by omega) hk ht
  clear C htl hzl ht hk
  go_enter Try.func6, Try.ntmps6
  go_wp2_with (first | (go_at_call 18; refine Calls.mono HC.out ?_; rintro e w' ⟨rfl, hw⟩; have hw2 := hw.symm; subst hw2) | (go_at_call 19; refine Calls.mono HD.out ?_; rintro e w' ⟨rfl, hw⟩; have hw2 := hw.symm; subst hw2))
  refine Calls.mono HE.out ?_
  rintro e w1 ⟨T, rfl, hT1, hT2, hb1, hlt1⟩
  have HT1 : Hid _ := hT2
  obtain ⟨N, hN⟩ : ∃ N, T.length = N := ⟨_, rfl⟩
  rw [hN] at hT1 ⊢
  have HN : Hid _ := hN
  clear hT2 hN HC HD HE
  go_wp2_with fail
  refine Calls.mono (zsplit_any T _ N (CutI T N) _ HN.out hT1 HT1.out (cutI_inv T N HN.out)) ?_
  rintro e w2 ⟨v, s, p, b, acc, rfl, hcut, hs, hown, hlen, hb2⟩
  have HCut : Hid _ := cut_of T N s p b acc HN.out hcut
  generalize (if s < N then acc ++ [(s, N)] else acc) = L at *
  obtain ⟨ao, cap, hv, hview⟩ := own_view hown
  have hbw : Below w.heap.size w w2 := below_next hb1 (Nat.le_refl _) hb2
  have HT2 : Hid _ := TokSl.below HT1.out hb2
  have HV : Hid _ := hview
  clear hcut hs hown hview HT1 hb1 hb2
  subst hv
  go_wp2
  go_loopw [7, 8] (fun p' k' wr => ∃ (k q : Nat), k ≤ L.length ∧ k' = .int .i64 k ∧ p' = .int .i64 q ∧ q ≤ N ∧ Below w2.heap.size w2 wr ∧ Cut T N q (L.drop k)) (fun _ k' _ => L.length - (intOf k').toNat)
  case atStart => exact ⟨0, 0, Nat.zero_le _, rfl, rfl, Nat.zero_le _, Below.refl _ _, by rw [List.drop_zero]; exact HCut.out⟩
  case round =>
    obtain ⟨k, q, hk, rfl, rfl, hqN, hbr, hC⟩ := hrel
    by_cases hlt : k < L.length
    · obtain ⟨s0, ln0, hx, hl, hrun, heN, hns, hsem, hrest⟩ := cut_at hC hlt
      obtain ⟨g, rfl, hc0⟩ := HV.out k (stV w.heap.size N (s0, s0 + ln0)) (by rw [List.getElem?_map, hx]; rfl)
      have hc : wr.cell? ⟨g, k, none⟩ = some (.slice (some ⟨w.heap.size, s0 * 3, none⟩) ln0 (N - s0)) := by
        rw [(hbr.cell (World.block_lt_of_cell? w2 _ hc0)).trans hc0]
        simp [stV]
      have HX : Hid _ := hrun
      have HR : Hid _ := hrest
      have hqs := hrun.1
      have hl0 : (((ln0 : Nat) : Int) == 0) = false := by rw [beq_eq_false_iff_ne]; omega
      clear hrun hrest hc0 hx HV hC
      go_wp2
      obtain ⟨wo, rfl⟩ : ∃ wo : World, wo = wr := ⟨_, rfl⟩
      go_loopw [7] (fun p' wi => ∃ r : Nat, q ≤ r ∧ r ≤ s0 ∧ p' = .int .i64 r ∧ Below w2.heap.size w2 wi) (fun p' _ => s0 - (intOf p').toNat)
      case atStart => exact ⟨q, Nat.le_refl _, hqs, rfl, hbr⟩
      case round =>
        obtain ⟨r, hqr, hrs, rfl, hbi⟩ := hrel
        clear hc
        obtain ⟨t, htk⟩ : ∃ t, T[r]? = some t := ⟨_, List.getElem?_eq_getElem (by rw [HN.out]; omega)⟩
        obtain ⟨q0, q1, q2⟩ := tok_at (TokSl.below HT2.out hbi) htk
        have hrN : (r : Int) < (N : Int) := by omega
        by_cases hr : r < s0
        · have hsr : t.isOp bSemi = true := HX.out.2 r t hqr hr htk
          clear htk
          go_wp2_with (go_at_call 22; refine (zisOp_any _ _ _).mono ?_; rintro e w9 ⟨rfl, hb9⟩)
          go_roundw
          case rel => exact ⟨r + 1, by omega, by omega, by go_num, below_next hbi (Nat.le_refl _) hb9⟩
          case measure => simp [intOf]; omega
        · obtain rfl : r = s0 := by omega
          have hsr : t.isOp bSemi = false := hns t htk
          clear htk
          go_wp2_with (go_at_call 22; refine (zisOp_any _ _ _).mono ?_; rintro e w9 ⟨rfl, hb9⟩)
          have hbj := below_next hbi (Nat.le_refl _) hb9
          clear q0 q1 q2 hb9
          go_loopw [10] (fun m' wj => ∃ m : Nat, m ≤ ln0 ∧ m' = .int .i64 m ∧ Below w2.heap.size w2 wj) (fun m' _ => ln0 - (intOf m').toNat)
          case atStart => exact ⟨0, Nat.zero_le _, rfl, hbj⟩
          case round =>
            obtain ⟨m, hm, rfl, hbm⟩ := hrel
            by_cases hml : m < ln0
            · obtain ⟨t', htk⟩ : ∃ t, T[r + m]? = some t := ⟨_, List.getElem?_eq_getElem (by rw [HN.out]; omega)⟩
              have hq := tok_at (TokSl.below HT2.out hbm) htk
              have d0 : ∀ x : Kin wr, x.at_.cell? ⟨w.heap.size, (r + m) * 3, none⟩ = some (.int .i64 t'.kind) := fun x => x.cell hq.1
              have d1 : ∀ x : Kin wr, x.at_.cell? ⟨w.heap.size, (r + m) * 3 + 1, none⟩ = some (.string t'.text) := fun x => x.cell hq.2.1
              have d2 : ∀ x : Kin wr, x.at_.cell? ⟨w.heap.size, (r + m) * 3 + 2, none⟩ = some (.int .i64 t'.line) := fun x => x.cell hq.2.2
              have esp : r * 3 + m * 3 = (r + m) * 3 := by omega
              have c0 : ∀ x : Kin wr, x.at_.cell? ⟨w.heap.size, r * 3 + m * 3, none⟩ = some (.int .i64 t'.kind) := fun x => by rw [esp]; exact d0 x
              have c1 : ∀ x : Kin wr, x.at_.cell? ⟨w.heap.size, r * 3 + m * 3 + 1, none⟩ = some (.string t'.text) := fun x => by rw [esp]; exact d1 x
              have c2 : ∀ x : Kin wr, x.at_.cell? ⟨w.heap.size, r * 3 + m * 3 + 2, none⟩ = some (.int .i64 t'.line) := fun x => by rw [esp]; exact d2 x
              have hmI : (m : Int) < (ln0 : Int) := by omega
              have hrmI : (r : Int) + (m : Int) < (N : Int) := by omega
              have hne : Nonempty (Kin wr) := ⟨⟨wr, Below.refl _ _⟩⟩
              clear hq htk esp
              go_wp2
              refine wp_region_kin (by kernel_rfl) (by kernel_rfl) ?_
              repeat (go_big_quiet_step ((go_at_call 23; exact Calls.kin_of (zsame_self _ _))))
              refine wpQuiet_nil ?_
              rintro _ ⟨x, rfl⟩
              have hx : Below w2.heap.size w2 x.at_ := below_next hbm (Nat.le_refl _) x.holds
              clear c0 c1 c2 d0 d1 d2 hne
              go_wp2
              go_roundw
              case rel => exact ⟨m + 1, by omega, by go_num, hx⟩
              case measure => simp [intOf]; omega
            · obtain rfl : m = ln0 := by omega
              by_cases hend : r + m < N
              · obtain ⟨t', htk⟩ : ∃ t, T[r + m]? = some t := ⟨_, List.getElem?_eq_getElem (by rw [HN.out]; omega)⟩
                obtain ⟨q0, q1, q2⟩ := tok_at (TokSl.below HT2.out hbm) htk
                have hst : t'.isOp bSemi = true := hsem t' htk
                have hrmI : (r : Int) + (m : Int) < (N : Int) := by omega
                clear htk
                go_wp2_with (go_at_call 22; refine (zisOp_any _ _ _).mono ?_; rintro e w9 ⟨rfl, hb9⟩)
                go_roundw
                case rel => exact ⟨k + 1, r + m, by omega, by go_num, by go_num, by omega, below_next hbm (Nat.le_refl _) hb9, HR.out⟩
                case measure => simp [intOf]; omega
              · have hrmI : ¬ (r : Int) + (m : Int) < (N : Int) := by omega
                go_wp2_with (go_at_call 22; refine (zisOp_any _ _ _).mono ?_; rintro e w9 ⟨rfl, hb9⟩)
                go_roundw
                case rel => exact ⟨k + 1, r + m, by omega, by go_num, by go_num, by omega, hbm, HR.out⟩
                case measure => simp [intOf]; omega
    · have hnil : L.drop k = [] := List.drop_eq_nil_of_le (by omega)
      rw [hnil] at hC
      have HX : Hid (SemiRun T q N) := hC
      clear hC hnil HV
      go_wp2
      go_loopw [7] (fun p' wi => ∃ r : Nat, q ≤ r ∧ r ≤ N ∧ p' = .int .i64 r ∧ Below w2.heap.size w2 wi) (fun p' _ => N - (intOf p').toNat)
      case atStart => exact ⟨q, Nat.le_refl _, hqN, rfl, hbr⟩
      case round =>
        obtain ⟨r, hqr, hrN, rfl, hbi⟩ := hrel
        by_cases hr : r < N
        · obtain ⟨t, htk⟩ : ∃ t, T[r]? = some t := ⟨_, List.getElem?_eq_getElem (by rw [HN.out]; omega)⟩
          obtain ⟨q0, q1, q2⟩ := tok_at (TokSl.below HT2.out hbi) htk
          have hsr : t.isOp bSemi = true := HX.out.2 r t hqr hr htk
          have hrI : (r : Int) < (N : Int) := by omega
          clear htk
          go_wp2_with (go_at_call 22; refine (zisOp_any _ _ _).mono ?_; rintro e w9 ⟨rfl, hb9⟩)
          go_roundw
          case rel => exact ⟨r + 1, by omega, by omega, by go_num, below_next hbi (Nat.le_refl _) hb9⟩
          case measure => simp [intOf]; omega
        · go_wp2
          go_ret
          exact ⟨rfl, below_next hbw (Nat.le_refl _) hbi⟩

end Go.Proofs.Qxb6001401a
