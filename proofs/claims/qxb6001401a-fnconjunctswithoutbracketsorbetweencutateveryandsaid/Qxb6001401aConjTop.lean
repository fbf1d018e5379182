/- The walk of conjuncts over a whole expression. -/
import Derived.Test.Qxb6001401aAnds
import Derived.Test.Qxb6001401aCut
set_option linter.unusedSimpArgs false
set_option linter.unusedVariables false
namespace Go.Proofs.Qxb6001401a
open Go.ChangeShapes Go.WideShapes Go.ChangeAt Go.RowKit

theorem Try.info35 : (Try.prog.info? 35).map (fun i => (i.zero, i.size, i.bytes)) = some (some (.slice none 0 0), 1, 24) := by kernel_rfl

theorem owns_mono {w : World} {b b' : Nat} {e : TypeId} {size : Nat} {v : Value} {n : Nat} {xs : List Value} (h : w.ownsRow b' e size v n xs) (hb : b ≤ b') : w.ownsRow b e size v n xs := by
  refine ⟨h.1, ?_⟩
  rcases h.2 with h2 | ⟨g, cap, cur, hv, hg, r⟩
  · exact .inl h2
  · exact .inr ⟨g, cap, cur, hv, Nat.le_trans hb hg, r⟩

/-- what conjuncts leaves -/
def ConjPost (T : List Tok) (B N : Nat) (w : World) (e : Ending) (w' : World) : Prop :=
  ∃ v, e = .returned v ∧ w'.ownsRow w.heap.size 35 1 v (andTo T (N + 1)).2.length ((andTo T (N + 1)).2.map (ptV B N)) ∧ Below w.heap.size w w'

theorem conj_none (T : List Tok) (B N : Nat) (w : World) (hN : T.length = N) (hmax : N ≤ 65536) (hT : TokSl w (some ⟨B, 0, none⟩) T) (hM : ∀ (k : Nat) (t : Tok), T[k]? = some t → Mild t) (h0 : (andTo T N).2 = []) :
    Calls Try.prog 43 #[.slice (some ⟨B, 0, none⟩) N N] w fun e w' => ConjPost T B N w e w' := by
  refine (conj_leaf T (some ⟨B, 0, none⟩) N N w hN hmax hT hM (fun k t hk => ?_)).mono ?_
  · have := and_none T N h0 k (by have := (List.getElem?_eq_some_iff.1 hk).1; omega)
    rw [andAt_some hk] at this
    exact this
  · rintro e w' ⟨g, rfl, hown, hb⟩
    refine ⟨_, rfl, ?_, hb⟩
    rw [and_whole T N hN, h0, and_zero T N h0]
    have e1 : ptV B N (0, N) = .slice (some ⟨B, 0, none⟩) N N := by unfold ptV; simp
    simp only [List.nil_append, List.length_singleton, List.map_singleton, e1]
    exact hown

/-- the first loop's relation -/
def CjAt (T : List Tok) (B N : Nat) (w : World) (p c : Nat) (v : Value) (wr : World) : Prop :=
  wr.ownsRow w.heap.size 35 1 v (andTo T p).2.length ((andTo T p).2.map (stV B N)) ∧ v.ownBlock ≠ some c ∧ CurAt c (some ⟨B, 0, none⟩) N N p wr ∧ w.heap.size ≤ c ∧ Below w.heap.size w wr

set_option maxHeartbeats 4000000 in
set_option maxRecDepth 20000 in
theorem conj_some (T : List Tok) (B N : Nat) (w : World) (hN : T.length = N) (hmax : N ≤ 65536) (hT : TokSl w (some ⟨B, 0, none⟩) T) (hM : ∀ (k : Nat) (t : Tok), T[k]? = some t → Mild t) (h0 : (andTo T N).2 ≠ []) :
    Calls Try.prog 43 #[.slice (some ⟨B, 0, none⟩) N N] w fun e w' => ConjPost T B N w e w' := by
  obtain ⟨i0, hi, hz0, hz1, hz2⟩ := info_parts Try.info35
  have HN : Hid _ := hN
  have HT : Hid _ := hT
  have HM : Hid _ := hM
  have H0 : Hid _ := h0
  have hs0 := (seen_mild hM 0).1
  have P0 : Hid _ := peek_any T w.heap.size (some ⟨B, 0, none⟩) N N 0 (w.alloc (.cells #[.slice (some ⟨B, 0, none⟩) N N, .int .i64 0] 58)) (cur_new w (some ⟨B, 0, none⟩) N N 0) (by omega) hN (hT.below (below_alloc _ _))
  clear hN hT hM h0
  go_enter Try.func43, Try.ntmps43
  go_wp2_with (first | (go_at_call 47; refine Calls.mono P0.out ?_; rintro e w1 ⟨rfl, hbA⟩; obtain ⟨y, rfl⟩ := kin_first hbA) | (go_at_call 44; refine (isOp_any _ _ _).mono ?_; rintro e w1 ⟨rfl, hbA⟩; obtain ⟨y, rfl⟩ := kin_next hbA))
  have hy := kin_below y
  have hy2 : Below w.heap.size w (y.at_.alloc (.cells #[.slice (some ⟨B, 0, none⟩) N N, .int .i64 0] 58)) := hy.alloc hy.size _
  have hys := hy.size
  have HC0 : Hid (CjAt T B N w 0 y.at_.heap.size (.slice none 0 0) (y.at_.alloc (.cells #[.slice (some ⟨B, 0, none⟩) N N, .int .i64 0] 58))) := ⟨World.ownsRow_nil _ _ _ _, by simp [Value.ownBlock], cur_new y.at_ (some ⟨B, 0, none⟩) N N 0, hys, hy2⟩
  clear P0 hy hs0 hy2 hys
  go_loopg [6, 7, 8, 9] N (fun gk v6 v7 v8 v9 wr => ∃ (c p : Nat), gk = N - p ∧ p ≤ N ∧ v7 = .int .i64 (andTo T p).1 ∧ v8 = .bool false ∧ v9 = .pointer (some ⟨c, 0, none⟩) ∧ CjAt T B N w p c v6 wr)
  case atStart => exact ⟨y.at_.heap.size, 0, rfl, Nat.zero_le _, rfl, rfl, rfl, HC0.out⟩
  case round =>
    obtain ⟨c, p, hgk, hp, rfl, rfl, rfl, hCj⟩ := hrel
    have HG : Hid _ := hgk
    obtain ⟨hown, hob, hc, hwc, hb⟩ := hCj
    have D : Hid _ := done_any c (some ⟨B, 0, none⟩) N N p wr hc
    have P : Hid (∀ x : Kin wr, _) := fun x : Kin wr => peek_any T c (some ⟨B, 0, none⟩) N N p x.at_ (hc.below x.holds) (by omega) HN.out (TokSl.below HT.out (below_next hb (Nat.le_refl _) x.holds))
    have mt := seen_mild HM.out p
    have S : Hid (∀ (c' : Nat) (w' : World), CurAt c' (some ⟨B, 0, none⟩) N N p w' → TokSl w' (some ⟨B, 0, none⟩) T → _) := fun (c' : Nat) (w' : World) h1 h2 => skip_any' T c' (some ⟨B, 0, none⟩) N N p w' h1 (by omega) HN.out hp h2 mt.1 mt.2.1
    obtain ⟨m1, m2, m3⟩ := mt
    have lc := World.block_lt_of_cell? wr _ hc.1
    have HC : Hid _ := hc
    have HO : Hid _ := hown
    have HOB : Hid _ := hob
    have hle := and_le T p
    clear hgk hc HC0 hown hob
    by_cases hlt : p < N
    · have hseen : seen T p = T[p]'(by rw [HN.out]; exact hlt) := by unfold seen; rw [List.getElem?_eq_getElem (by rw [HN.out]; exact hlt)]; rfl
      have hca : Hid (andAt T p = (seen T p).isWord bAnd) := by
        show andAt T p = _
        rw [hseen]
        exact andAt_some (List.getElem?_eq_getElem (by rw [HN.out]; exact hlt))
      clear hseen
      generalize seen T p = t at *
      generalize hS : (andTo T p).1 = s at *
      have HS : Hid _ := hS
      clear hS
      have hd : decide (N ≤ p) = false := decide_eq_false (by omega)
      go_wp2_with (first | (go_at_call 49; refine Calls.mono D.out ?_; rintro e w1 ⟨rfl, hb1⟩; obtain ⟨y, rfl⟩ := kin_first hb1) | (go_at_call 47; refine Calls.mono (P.out _) ?_; rintro e w1 ⟨rfl, hb1⟩; obtain ⟨y, rfl⟩ := kin_next hb1))
      have hyb := y.holds
      have C1 := CurAt.below HC.out hyb
      have c0 : ∀ x : Kin (y.at_.alloc (.cells #[.int .i64 t.kind, .string t.text, .int .i64 t.line] 43)), x.at_.cell? ⟨y.at_.heap.size, 0, none⟩ = some (.int .i64 t.kind) := fun x => x.cell (by simp)
      have c1 : ∀ x : Kin (y.at_.alloc (.cells #[.int .i64 t.kind, .string t.text, .int .i64 t.line] 43)), x.at_.cell? ⟨y.at_.heap.size, 1, none⟩ = some (.string t.text) := fun x => x.cell (by simp)
      have c2 : ∀ x : Kin (y.at_.alloc (.cells #[.int .i64 t.kind, .string t.text, .int .i64 t.line] 43)), x.at_.cell? ⟨y.at_.heap.size, 2, none⟩ = some (.int .i64 t.line) := fun x => x.cell (by simp)
      have d0 : ∀ x : Kin (y.at_.alloc (.cells #[.int .i64 t.kind, .string t.text, .int .i64 t.line] 43)), x.at_.cell? ⟨c, 0, none⟩ = some (.slice (some ⟨B, 0, none⟩) N N) := fun x => (C1.below (kin_below x)).1
      have d1 : ∀ x : Kin (y.at_.alloc (.cells #[.int .i64 t.kind, .string t.text, .int .i64 t.line] 43)), x.at_.cell? ⟨c, 1, none⟩ = some (.int .i64 p) := fun x => (C1.below (kin_below x)).2.1
      clear C1 D P
      by_cases han : t.isWord bAnd = true
      · have hlen2 : (andTo T p).2.length ≤ 65536 := by omega
        go_wp2_with (first | (at_builtin; have hownZ := ownsRow_below HO.out (below_next hyb (Nat.le_refl _) (kin_below z)); refine wpList_append_own _ rfl (.tmp 40) (.tmp 46) 47 rfl w.heap.size 35 i0 (.slice none 0 0) 1 24 Try.underlying47 hi hz0 hz1 hz2 rfl (by decide) _ _ _ rfl (hownZ.alloc _) ⟨z.at_.heap.size, 0, none⟩ 1 1 [stV B N (s, p)] rfl rfl (tok_one_new _ _ _) (stV_one _ _ _) (by unfold maxLen; omega) (by omega) (by have h1 := (kin_below z).size; have h2 := hyb.size; have h3 := hb.size; simp; omega) ?_; intro v' w2 hown2 hg2 _; have f0 := hg2.cell (a := ⟨c, 0, none⟩) (((below_alloc z.at_ _).cell (World.block_lt_of_cell? z.at_ _ (d0 z))).trans (d0 z)) (fun e => HOB.out e.symm); have f1 := hg2.cell (a := ⟨c, 1, none⟩) (((below_alloc z.at_ _).cell (World.block_lt_of_cell? z.at_ _ (d1 z))).trans (d1 z)) (fun e => HOB.out e.symm)) | (go_at_call 45; refine (is_any _ _ _).mono ?_; rintro e w1 ⟨rfl, hb1⟩; first | obtain ⟨z, rfl⟩ := kin_next hb1 | obtain ⟨z, rfl⟩ := kin_first hb1))
        have hzb : Below wr.heap.size wr z.at_ := below_next hyb (Nat.le_refl _) (kin_below z)
        have hzw : Below w.heap.size w z.at_ := below_next hb (Nat.le_refl _) hzb
        have h2w : Below w.heap.size w w2 := (hzw.alloc hzw.size _).grown hg2 (by have := hzw.size; simp; omega) (fun j hj => ((show wr.ownsRow _ _ _ _ _ _ from HO.out).lt j hj).1)
        refine Calls.mono (S.out w2.heap.size _ (cur_new w2 (some ⟨B, 0, none⟩) N N p) (TokSl.below HT.out (h2w.alloc h2w.size _))) ?_
        rintro e w5 ⟨rfl, hc5, hb5⟩
        have HC5 : Hid _ := hc5
        have hw5 : Below w.heap.size w w5 := (h2w.alloc h2w.size _).trans (hb5.mono h2w.size)
        have HB5 : Hid (Below w2.heap.size w2 w5) := (below_alloc w2 _).trans hb5
        have HO2 : Hid _ := hown2
        have h2s := h2w.size
        clear c0 c1 c2 d0 d1 S hc5 hb5 f0 f1 hown2 hg2
        go_wp2
        go_roundg (N - (p + 1))
        case measure => rw [HG.out]; omega
        case rel =>
          refine ⟨w2.heap.size, p + 1, rfl, by omega, by rw [and_cut (by rw [hca.out]; exact han)]; go_num, rfl, rfl, ?_, ?_, by have := HC5.out; rw [show min (p + 1) N = p + 1 by omega] at this; exact this, h2s, hw5⟩
          · rw [and_cut (by rw [hca.out]; exact han), HS.out]
            simpa using ownsRow_below HO2.out HB5.out
          · intro e
            have := ((show w2.ownsRow _ _ _ _ _ _ from HO2.out).lt _ e).2
            omega
      · simp only [Bool.not_eq_true] at han
        go_wp2_with (go_at_call 45; refine (is_any _ _ _).mono ?_; rintro e w1 ⟨rfl, hb1⟩; first | obtain ⟨z, rfl⟩ := kin_next hb1 | obtain ⟨z, rfl⟩ := kin_first hb1)
        have hzb : Below wr.heap.size wr z.at_ := below_next hyb (Nat.le_refl _) (kin_below z)
        have hzw : Below w.heap.size w z.at_ := below_next hb (Nat.le_refl _) hzb
        refine Calls.mono (S.out z.at_.heap.size _ (cur_new z.at_ (some ⟨B, 0, none⟩) N N p) (TokSl.below HT.out (hzw.alloc hzw.size _))) ?_
        rintro e w5 ⟨rfl, hc5, hb5⟩
        have HC5 : Hid _ := hc5
        have hw5 : Below w.heap.size w w5 := (hzw.alloc hzw.size _).trans (hb5.mono hzw.size)
        have hzs := hzw.size
        have HB5 : Hid (Below wr.heap.size wr w5) := (hzb.alloc hzb.size _).trans (hb5.mono hzb.size)
        have lz := hzb.size
        clear c0 c1 c2 d0 d1 S hc5 hb5
        go_wp2
        go_roundg (N - (p + 1))
        case measure => rw [HG.out]; omega
        case rel =>
          refine ⟨z.at_.heap.size, p + 1, rfl, by omega, by rw [and_no (by rw [hca.out]; exact han), HS.out], rfl, rfl, ?_, ?_, by have := HC5.out; rw [show min (p + 1) N = p + 1 by omega] at this; exact this, hzs, hw5⟩
          · rw [and_no (by rw [hca.out]; exact han)]; exact ownsRow_below HO.out HB5.out
          · intro e
            have := ((show wr.ownsRow _ _ _ _ _ _ from HO.out).lt _ e).2
            omega
    · obtain rfl : p = N := by omega
      have hd : decide (p ≤ p) = true := decide_eq_true (Nat.le_refl _)
      obtain ⟨ao6, cap6, hv6, _⟩ := own_view (show wr.ownsRow _ _ _ _ _ _ from HO.out)
      have hl0 : (((andTo T p).2.length : Int) == 0) = false := by
        rw [beq_eq_false_iff_ne]
        intro e
        exact H0.out (List.eq_nil_of_length_eq_zero (by omega))
      have hpn := (and_parts T p).1
      have HPN : Hid _ := hpn
      have HPL : Hid _ := (and_parts T p).2
      have HW : Hid _ := and_whole T p HN.out
      have HPS : Hid _ := parts_st T B p
      clear P S hpn
      generalize hS : (andTo T p).1 = s at *
      have HS : Hid _ := hS
      clear hS
      subst hv6
      have tail : ∀ (w3 : World) (v7 : Value) (x : Value), x = ptV B p (s, p) → w3.ownsRow w.heap.size 35 1 v7 ((andTo T p).2.length + 1) ((andTo T p).2.map (stV B p) ++ [x]) → ∃ ao cap, v7 = .slice ao (andTo T (p + 1)).2.length cap ∧ ∀ j x, (andTo T (p + 1)).2[j]? = some x → ∃ g, ao = some ⟨g, 0, none⟩ ∧ w3.cell? ⟨g, j, none⟩ = some (ptV B p x) := by
        intro w3 v7 x hx h
        obtain ⟨ao, cap, hv, hview⟩ := own_view h
        refine ⟨ao, cap, by rw [hv, HW.out]; simp, fun j y hj => ?_⟩
        refine hview j (ptV B p y) ?_
        rw [← HPS.out, hx]
        rw [HW.out] at hj
        rw [show (andTo T p).2.map (ptV B p) ++ [ptV B p (s, p)] = ((andTo T p).2 ++ [(s, p)]).map (ptV B p) by simp, List.getElem?_map, hj]
        rfl
      have HTail : Hid _ := tail
      clear tail
      have rest : ∀ (w3 : World), Below w.heap.size w w3 → ∀ x ∈ (andTo T (p + 1)).2, ∃ o, ptV B p x = .slice (some ⟨B, o, none⟩) (x.2 - x.1) (p - x.1) ∧ TokSl w3 (some ⟨B, o, none⟩) ((T.drop x.1).take (x.2 - x.1)) ∧ ((T.drop x.1).take (x.2 - x.1)).length = x.2 - x.1 ∧ (∀ (k : Nat) (t : Tok), ((T.drop x.1).take (x.2 - x.1))[k]? = some t → t.isWord bAnd = false) := by
        intro w3 hb3 x hx
        have hx2 : NoAnd T x ∧ x.2 ≤ p := by
          rw [HW.out] at hx
          simp only [List.mem_append, List.mem_singleton] at hx
          rcases hx with hx | rfl
          · exact ⟨(HPN.out x hx).1, by have := (HPN.out x hx).2; omega⟩
          · exact ⟨HPL.out, Nat.le_refl _⟩
        obtain ⟨o, ho, ht⟩ := part_view (TokSl.below HT.out hb3) HN.out x hx2.1.1 hx2.2
        exact ⟨o, ho, ht, by rw [List.length_take, List.length_drop, HN.out]; omega, fun k t hk => part_and hx2.1 k t hk⟩
      have HRest : Hid _ := rest
      clear rest
      have hLn : (andTo T (p + 1)).2.length ≤ 65537 := by have := (and_le T (p + 1)).2; omega
      have HMP : Hid (∀ (a m k : Nat) (t : Tok), ((T.drop a).take m)[k]? = some t → Mild t) := fun a m k t hk => part_mild HM.out a m k t hk
      clear HPN HPL HPS HM H0 HOB HC
      by_cases hsp : s < p
      · have hspI : ¬ p = s := by omega
        go_wp2_with (first | (go_at_call 49; refine Calls.mono D.out ?_; rintro e w1 ⟨rfl, hb1⟩; obtain ⟨y, rfl⟩ := kin_first hb1) | (at_builtin; have hownZ := ownsRow_below HO.out y.holds; refine wpList_append_own _ rfl (.tmp 64) (.tmp 68) 47 rfl w.heap.size 35 i0 (.slice none 0 0) 1 24 Try.underlying47 hi hz0 hz1 hz2 rfl (by decide) _ _ _ rfl (hownZ.alloc _) ⟨y.at_.heap.size, 0, none⟩ 1 1 [.slice (some ⟨B, s * 3, none⟩) (p - s) (p - s)] rfl rfl (tok_one_new _ _ _) (fun u hu => by simp at hu; subst hu; rfl) (by unfold maxLen; omega) (by omega) (by have h2 := y.holds.size; have h3 := hb.size; simp; omega) ?_))
        intro v7 w3 hown3 hg3 _
        obtain ⟨ao7, cap7, hv7, hview⟩ := HTail.out w3 v7 _ (by unfold ptV; rw [if_neg hspI]) hown3
        have h3w : Below w.heap.size w w3 := ((below_next hb (Nat.le_refl _) y.holds).alloc (below_next hb (Nat.le_refl _) y.holds).size _).grown hg3 (by have h2 := y.holds.size; have h3 := hb.size; simp; omega) (fun j hj => ((show wr.ownsRow _ _ _ _ _ _ from HO.out).lt j hj).1)
        have HV : Hid _ := hview
        clear hown3 hg3 hview HTail D HO
        subst hv7
        go_wp2
        generalize hL : (andTo T (p + 1)).2 = L at *
        have HL : Hid _ := hL
        clear hL
        go_loopw [11, 71] (fun v11 j' wi => ∃ j : Nat, j ≤ L.length ∧ j' = .int .i64 j ∧ wi.ownsRow w3.heap.size 35 1 v11 j ((L.take j).map (ptV B p)) ∧ Below w3.heap.size w3 wi) (fun _ j' _ => L.length - (intOf j').toNat)
        case atStart => exact ⟨0, Nat.zero_le _, rfl, by simpa using World.ownsRow_nil w3 _ _ _, Below.refl _ _⟩
        case round =>
          obtain ⟨j, hj, rfl, hownj, hbj⟩ := hrel
          have HOJ : Hid _ := hownj
          clear hownj
          by_cases hjl : j < L.length
          · have hx : L[j]? = some L[j] := List.getElem?_eq_getElem hjl
            obtain ⟨o, ho, htk, hln, hna⟩ := HRest.out wr (below_next h3w (Nat.le_refl _) hbj) L[j] (List.getElem_mem hjl)
            obtain ⟨g7, rfl, hc7⟩ := HV.out j L[j] hx
            have hcj : wr.cell? ⟨g7, j, none⟩ = some (.slice (some ⟨B, o, none⟩) (L[j].2 - L[j].1) (p - L[j].1)) := by
              rw [← ho]
              exact (hbj.cell (World.block_lt_of_cell? w3 _ hc7)).trans hc7
            have HTJ : Hid _ := List.take_succ_eq_append_getElem hjl
            have HPJ : Hid _ := ho
            generalize L[j].2 - L[j].1 = m at *
            generalize p - L[j].1 = cm at *
            have hmp : m ≤ 65536 := by
              rw [List.length_take, List.length_drop, HN.out] at hln
              omega
            have CL : Hid _ := conj_leaf _ _ m cm wr hln hmp htk (fun k t hk => HMP.out _ _ k t hk) hna
            clear ho hx hc7 htk hln hna HV HRest
            go_wp2_with (first | (go_at_call 43; refine Calls.mono CL.out ?_; rintro e w5 ⟨g, rfl, hown5, hb5⟩) | (at_builtin; refine wpList_append_own _ rfl (.tmp 75) (.tmp 77) 47 rfl w3.heap.size 35 i0 (.slice none 0 0) 1 24 Try.underlying47 hi hz0 hz1 hz2 rfl (by decide) _ _ _ rfl (ownsRow_below HOJ.out hb5) ⟨g, 0, none⟩ 1 1 [.slice (some ⟨B, o, none⟩) m cm] rfl rfl (hown5.cells (g := g) rfl) (fun u hu => by simp at hu; subst hu; rfl) (by unfold maxLen; omega) (by omega) (by have h2 := hbj.size; have h3 := hb5.size; omega) ?_; intro v8 w6 hown6 hg6 _))
            go_roundw
            case rel =>
              have hb6 : Below w3.heap.size w3 w6 := (below_next hbj (Nat.le_refl _) hb5).grown hg6 (below_next hbj (Nat.le_refl _) hb5).size (fun k hk => ((show wr.ownsRow _ _ _ _ _ _ from HOJ.out).lt k hk).1)
              refine ⟨j + 1, by omega, by go_num, ?_, hb6⟩
              rw [HTJ.out, List.map_append, List.map_singleton, HPJ.out]
              exact hown6
            case measure => simp [intOf]; omega
          · obtain rfl : j = L.length := by omega
            clear HV HRest
            go_wp2
            go_ret
            refine ⟨_, rfl, ?_, below_next h3w (Nat.le_refl _) hbj⟩
            rw [HL.out]
            have := HOJ.out
            rw [List.take_length] at this
            exact owns_mono this h3w.size
      · obtain rfl : p = s := by omega
        go_wp2_with (first | (go_at_call 49; refine Calls.mono D.out ?_; rintro e w1 ⟨rfl, hb1⟩; obtain ⟨y, rfl⟩ := kin_first hb1) | (at_builtin; have hownZ := ownsRow_below HO.out y.holds; refine wpList_append_own _ rfl (.tmp 64) (.tmp 68) 47 rfl w.heap.size 35 i0 (.slice none 0 0) 1 24 Try.underlying47 hi hz0 hz1 hz2 rfl (by decide) _ _ _ rfl (hownZ.alloc _) ⟨y.at_.heap.size, 0, none⟩ 1 1 [.slice (some ⟨B, 0, none⟩) 0 0] rfl rfl (tok_one_new _ _ _) (fun u hu => by simp at hu; subst hu; rfl) (by unfold maxLen; omega) (by omega) (by have h2 := y.holds.size; have h3 := hb.size; simp; omega) ?_))
        intro v7 w3 hown3 hg3 _
        obtain ⟨ao7, cap7, hv7, hview⟩ := HTail.out w3 v7 _ (by unfold ptV; simp) hown3
        have h3w : Below w.heap.size w w3 := ((below_next hb (Nat.le_refl _) y.holds).alloc (below_next hb (Nat.le_refl _) y.holds).size _).grown hg3 (by have h2 := y.holds.size; have h3 := hb.size; simp; omega) (fun j hj => ((show wr.ownsRow _ _ _ _ _ _ from HO.out).lt j hj).1)
        have HV : Hid _ := hview
        clear hown3 hg3 hview HTail D HO
        subst hv7
        go_wp2
        generalize hL : (andTo T (p + 1)).2 = L at *
        have HL : Hid _ := hL
        clear hL
        go_loopw [11, 71] (fun v11 j' wi => ∃ j : Nat, j ≤ L.length ∧ j' = .int .i64 j ∧ wi.ownsRow w3.heap.size 35 1 v11 j ((L.take j).map (ptV B p)) ∧ Below w3.heap.size w3 wi) (fun _ j' _ => L.length - (intOf j').toNat)
        case atStart => exact ⟨0, Nat.zero_le _, rfl, by simpa using World.ownsRow_nil w3 _ _ _, Below.refl _ _⟩
        case round =>
          obtain ⟨j, hj, rfl, hownj, hbj⟩ := hrel
          have HOJ : Hid _ := hownj
          clear hownj
          by_cases hjl : j < L.length
          · have hx : L[j]? = some L[j] := List.getElem?_eq_getElem hjl
            obtain ⟨o, ho, htk, hln, hna⟩ := HRest.out wr (below_next h3w (Nat.le_refl _) hbj) L[j] (List.getElem_mem hjl)
            obtain ⟨g7, rfl, hc7⟩ := HV.out j L[j] hx
            have hcj : wr.cell? ⟨g7, j, none⟩ = some (.slice (some ⟨B, o, none⟩) (L[j].2 - L[j].1) (p - L[j].1)) := by
              rw [← ho]
              exact (hbj.cell (World.block_lt_of_cell? w3 _ hc7)).trans hc7
            have HTJ : Hid _ := List.take_succ_eq_append_getElem hjl
            have HPJ : Hid _ := ho
            generalize L[j].2 - L[j].1 = m at *
            generalize p - L[j].1 = cm at *
            have hmp : m ≤ 65536 := by
              rw [List.length_take, List.length_drop, HN.out] at hln
              omega
            have CL : Hid _ := conj_leaf _ _ m cm wr hln hmp htk (fun k t hk => HMP.out _ _ k t hk) hna
            clear ho hx hc7 htk hln hna HV HRest
            go_wp2_with (first | (go_at_call 43; refine Calls.mono CL.out ?_; rintro e w5 ⟨g, rfl, hown5, hb5⟩) | (at_builtin; refine wpList_append_own _ rfl (.tmp 75) (.tmp 77) 47 rfl w3.heap.size 35 i0 (.slice none 0 0) 1 24 Try.underlying47 hi hz0 hz1 hz2 rfl (by decide) _ _ _ rfl (ownsRow_below HOJ.out hb5) ⟨g, 0, none⟩ 1 1 [.slice (some ⟨B, o, none⟩) m cm] rfl rfl (hown5.cells (g := g) rfl) (fun u hu => by simp at hu; subst hu; rfl) (by unfold maxLen; omega) (by omega) (by have h2 := hbj.size; have h3 := hb5.size; omega) ?_; intro v8 w6 hown6 hg6 _))
            go_roundw
            case rel =>
              have hb6 : Below w3.heap.size w3 w6 := (below_next hbj (Nat.le_refl _) hb5).grown hg6 (below_next hbj (Nat.le_refl _) hb5).size (fun k hk => ((show wr.ownsRow _ _ _ _ _ _ from HOJ.out).lt k hk).1)
              refine ⟨j + 1, by omega, by go_num, ?_, hb6⟩
              rw [HTJ.out, List.map_append, List.map_singleton, HPJ.out]
              exact hown6
            case measure => simp [intOf]; omega
          · obtain rfl : j = L.length := by omega
            clear HV HRest
            go_wp2
            go_ret
            refine ⟨_, rfl, ?_, below_next h3w (Nat.le_refl _) hbj⟩
            rw [HL.out]
            have := HOJ.out
            rw [List.take_length] at this
            exact owns_mono this h3w.size

end Go.Proofs.Qxb6001401a
