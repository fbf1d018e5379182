/- The walks of words and createsRoutine: they return some bool, and leave old memory alone. -/
import Derived.Test.Qxb6001401aMake
import Derived.WalkSmall
set_option linter.unusedSimpArgs false
set_option linter.unusedVariables false
namespace Go.Proofs.Qxb6001401a
open Go.ChangeShapes Go.WideShapes Go.ChangeAt Go.RowKit

/-- a cursor at block c, over the tokens behind ao, at place p -/
def CurAt (c : Nat) (ao : Option Addr) (n cap p : Nat) (w : World) : Prop :=
  w.cell? ⟨c, 0, none⟩ = some (.slice ao n cap) ∧ w.cell? ⟨c, 1, none⟩ = some (.int .i64 p) ∧ w.frozen? ⟨c, 1, none⟩ = false

theorem CurAt.below {c : Nat} {ao : Option Addr} {n cap p : Nat} {w w' : World} (h : CurAt c ao n cap p w) (hb : Below w.heap.size w w') : CurAt c ao n cap p w' := by
  have hlt : c < w.heap.size := World.block_lt_of_cell? w _ h.1
  exact ⟨(hb.cell hlt).trans h.1, (hb.cell hlt).trans h.2.1, (hb.frozen hlt).trans h.2.2⟩

set_option maxHeartbeats 1000000 in
theorem words_any (ts : List Tok) (ws : List ByteArray) (c : Nat) (ao wa : Option Addr) (n cap m wc p : Nat) (w : World) (hn : ts.length = n) (hm : ws.length = m) (hn1 : n ≤ 1048576) (hm1 : m ≤ 100) (hp : p ≤ n)
    (hc : CurAt c ao n cap p w) (ht : TokSl w ao ts) (hw : StrSl w wa ws) :
    Calls Try.prog 50 #[.pointer (some ⟨c, 0, none⟩), .slice wa m wc] w fun e w' => ∃ b p', e = .returned (.bool b) ∧ p' ≤ n ∧ CurAt c ao n cap p' w' ∧ Below c w w' := by
  have HN : Hid _ := hn
  have HM : Hid _ := hm
  have HC : Hid _ := hc
  obtain ⟨c0, c1, cf⟩ := hc
  have hcl : c < w.heap.size := World.block_lt_of_cell? w _ c0
  clear hn hm
  by_cases hfit : n < p + m
  · clear ht hw
    go_enter Try.func50, Try.ntmps50
    go_wp2
    go_quiet (fail)
    go_wp2
    go_ret
    exact ⟨false, p, rfl, hp, CurAt.below HC.out (below_drewN (Below.refl _ _) nq), below_drewN (Below.refl _ _) nq⟩
  · go_enter Try.func50, Try.ntmps50
    go_wp2
    go_quiet (fail)
    go_wp2
    go_loopw [22] (fun i wr => ∃ k : Nat, k ≤ m ∧ i = .int .i64 k ∧ Below w.heap.size w wr) (fun i _ => m - (intOf i).toNat)
    case atStart => exact ⟨0, Nat.zero_le _, rfl, below_drewN (Below.refl _ _) nq⟩
    case round =>
      obtain ⟨k, hk, rfl, hb⟩ := hrel
      have C' : Hid _ := CurAt.below HC.out hb
      have hszb := hb.size
      by_cases hlt : k < m
      · obtain ⟨s, hs⟩ : ∃ s, ws[k]? = some s := ⟨_, List.getElem?_eq_getElem (by rw [HM.out]; exact hlt)⟩
        obtain ⟨t, htk⟩ : ∃ t, ts[p + k]? = some t := ⟨_, List.getElem?_eq_getElem (by rw [HN.out]; omega)⟩
        obtain ⟨b', o', rfl, q0⟩ := hw k s hs
        obtain ⟨b, o, rfl, q⟩ := (ht.below hb) (p + k) t htk
        have qs : wr.cell? ⟨b', o' + k, none⟩ = some (.string s) := (hb.cell (World.block_lt_of_cell? w _ q0)).trans q0
        have d0 : ∀ x : Kin wr, x.at_.cell? ⟨c, 0, none⟩ = some (.slice (some ⟨b, o, none⟩) n cap) := fun x => x.cell C'.out.1
        have d1 : ∀ x : Kin wr, x.at_.cell? ⟨c, 1, none⟩ = some (.int .i64 p) := fun x => x.cell C'.out.2.1
        have e0 : ∀ x : Kin wr, x.at_.cell? ⟨b, o + (p + k) * 3, none⟩ = some (.int .i64 t.kind) := fun x => x.cell q.1
        have e1 : ∀ x : Kin wr, x.at_.cell? ⟨b, o + (p + k) * 3 + 1, none⟩ = some (.string t.text) := fun x => x.cell q.2.1
        have e2 : ∀ x : Kin wr, x.at_.cell? ⟨b, o + (p + k) * 3 + 2, none⟩ = some (.int .i64 t.line) := fun x => x.cell q.2.2
        have hlI : (k : Int) < (m : Int) := by omega
        have hlJ : (p : Int) + (k : Int) < (n : Int) := by omega
        have hne : Nonempty (Kin wr) := ⟨⟨wr, Below.refl _ _⟩⟩
        clear ht hw q0 q hs htk c0 c1 cf
        by_cases hw : t.isWord s = true
        · go_wp2
          refine wp_region_kin (by kernel_rfl) (by kernel_rfl) ?_
          repeat (go_big_quiet_step ((go_at_call 45; exact Calls.kin_of (is_any _ _ _))))
          refine wpQuiet_nil ?_
          rintro _ ⟨x, rfl⟩
          have hx : Below w.heap.size w x.at_ := hb.trans (x.holds.mono hb.size)
          clear d0 d1 e0 e1 e2 hne
          go_wp2
          go_roundw
          case rel => exact ⟨k + 1, by omega, by go_num, hx⟩
          case measure => simp [intOf]; omega
        · simp only [Bool.not_eq_true] at hw
          go_wp2
          refine wp_region_kin (by kernel_rfl) (by kernel_rfl) ?_
          repeat (go_big_quiet_step ((go_at_call 45; exact Calls.kin_of (is_any _ _ _))))
          refine wpQuiet_nil ?_
          rintro _ ⟨x, rfl⟩
          have hx : Below w.heap.size w x.at_ := hb.trans (x.holds.mono hb.size)
          have C2 : Hid _ := CurAt.below HC.out hx
          clear d0 d1 e0 e1 e2 hne
          go_wp2
          go_ret
          exact ⟨false, p, rfl, hp, C2.out, hx.mono (by omega)⟩
      · obtain ⟨d0, d1, df⟩ := C'.out
        clear c0 c1 cf ht hw
        go_wp2
        go_ret
        refine ⟨true, p + m, rfl, by omega, ⟨?_, ?_, ?_⟩, (hb.mono (Nat.le_of_lt hcl)).setCell (p := ⟨c, 1, none⟩) (Nat.le_refl _) _⟩
        · rw [World.cell?_setCell_other _ _ _ _ (by simp)]; exact d0
        · rw [World.cell?_setCell_same _ _ _ d1]; simp
        · simpa using df

theorem strSl_one (w : World) (a : ByteArray) (t : TypeId) : StrSl (w.alloc (.cells #[.string a] t)) (some ⟨w.heap.size, 0, none⟩) [a] := by
  intro i s hi
  match i, hi with
  | 0, hi => simp at hi; subst hi; exact ⟨_, _, rfl, by simp⟩

theorem strSl_two (w : World) (a b : ByteArray) (t : TypeId) : StrSl (w.alloc (.cells #[.string a, .string b] t)) (some ⟨w.heap.size, 0, none⟩) [a, b] := by
  intro i s hi
  match i, hi with
  | 0, hi => simp at hi; subst hi; exact ⟨_, _, rfl, by simp⟩
  | 1, hi => simp at hi; subst hi; exact ⟨_, _, rfl, by simp⟩

theorem below_alloc (w : World) (o : Obj) : Below w.heap.size w (w.alloc o) := (Below.refl _ _).alloc (Nat.le_refl _) o

set_option maxHeartbeats 1000000 in
theorem creates_any (ts : List Tok) (ao : Option Addr) (n cap : Nat) (w : World) (hn : ts.length = n) (hn1 : n ≤ 1048576) (ht : TokSl w ao ts) :
    Calls Try.prog 46 #[.slice ao n cap] w fun e w' => ∃ b, e = .returned (.bool b) ∧ Below w.heap.size w w' := by
  have HN : Hid _ := hn
  have HT : Hid _ := ht
  clear hn ht
  have K0 : CurAt w.heap.size ao n cap 0 (w.alloc (.cells #[.slice ao n cap, .int .i64 0] 58)) := ⟨by simp, by simp, by simp⟩
  have B0 := below_alloc w (.cells #[.slice ao n cap, .int .i64 0] 58)
  have HK0 : Hid _ := K0
  clear K0
  go_enter Try.func46, Try.ntmps46
  go_wp2_with fail
  refine (words_any ts [⟨#[99, 114, 101, 97, 116, 101]⟩] w.heap.size ao _ n cap 1 1 0 _ HN.out rfl hn1 (by omega) (by omega) (CurAt.below HK0.out (below_alloc _ _)) (TokSl.below HT.out (B0.trans ((below_alloc _ _).mono (by simp)))) (by simpa using strSl_one (w.alloc (.cells #[.slice ao n cap, .int .i64 0] 58)) _ 9)).mono ?_
  rintro e w1 ⟨b1, p1, rfl, hp1, hc1, hb1⟩
  have B1 : Below w.heap.size w w1 := (B0.trans ((below_alloc _ _).mono (by simp))).trans hb1
  have HK1 : Hid _ := hc1
  clear B0 HK0 hb1 hc1
  go_wp2_with fail
  refine (words_any ts [⟨#[111, 114]⟩, ⟨#[114, 101, 112, 108, 97, 99, 101]⟩] w.heap.size ao _ n cap 2 2 p1 _ HN.out rfl hn1 (by omega) hp1 (CurAt.below HK1.out (below_alloc _ _)) (TokSl.below HT.out (B1.trans ((below_alloc _ _).mono B1.size))) (strSl_two w1 _ _ 9)).mono ?_
  rintro e w2 ⟨b2, p2, rfl, hp2, hc2, hb2⟩
  have B2 : Below w.heap.size w w2 := (B1.trans ((below_alloc _ _).mono B1.size)).trans hb2
  have HK2 : Hid _ := hc2
  clear B1 HK1 hb2 hc2
  go_wp2_with fail
  refine (words_any ts [⟨#[102, 117, 110, 99, 116, 105, 111, 110]⟩] w.heap.size ao _ n cap 1 1 p2 _ HN.out rfl hn1 (by omega) hp2 (CurAt.below HK2.out (below_alloc _ _)) (TokSl.below HT.out (B2.trans ((below_alloc _ _).mono B2.size))) (strSl_one w2 _ 9)).mono ?_
  rintro e w3 ⟨b3, p3, rfl, hp3, hc3, hb3⟩
  have B3 : Below w.heap.size w w3 := (B2.trans ((below_alloc _ _).mono B2.size)).trans hb3
  have HK3 : Hid _ := hc3
  clear B2 HK2 hb3 hc3
  cases b3 with
  | true =>
    go_wp2
    go_ret
    exact ⟨true, rfl, B3⟩
  | false =>
    go_wp2_with fail
    refine (words_any ts [⟨#[112, 114, 111, 99, 101, 100, 117, 114, 101]⟩] w.heap.size ao _ n cap 1 1 p3 _ HN.out rfl hn1 (by omega) hp3 (CurAt.below HK3.out (below_alloc _ _)) (TokSl.below HT.out (B3.trans ((below_alloc _ _).mono B3.size))) (strSl_one w3 _ 9)).mono ?_
    rintro e w4 ⟨b4, p4, rfl, hp4, hc4, hb4⟩
    have B4 : Below w.heap.size w w4 := (B3.trans ((below_alloc _ _).mono B3.size)).trans hb4
    clear B3 HK3 hb4 hc4
    go_wp2
    go_ret
    exact ⟨b4, rfl, B4⟩

end Go.Proofs.Qxb6001401a
