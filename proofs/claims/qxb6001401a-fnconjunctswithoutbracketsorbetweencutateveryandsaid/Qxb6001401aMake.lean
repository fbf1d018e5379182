/- The walk of zzMake: fresh tokens. -/
import Derived.Test.Qxb6001401aSizes
import Derived.Deep.RegionHeld3
set_option linter.unusedSimpArgs false
set_option linter.unusedVariables false
namespace Go.Proofs.Qxb6001401a
open Go.ChangeShapes Go.WideShapes Go.ChangeAt Go.RowKit

theorem zmake_any (k : Int) (s : ByteArray) (l : Int) (w : World) :
    Calls Try.prog 34 #[.int .i64 k, .string s, .int .i64 l] w fun e w' => e = .returned (.agg #[.int .i64 k, .string s, .int .i64 l]) ∧ Below w.heap.size w w' := by
  go_enter Try.func34, Try.ntmps34
  go_wp2
  exact bodyPost_ret (v := .agg #[.int .i64 k, .string s, .int .i64 l]) (by simp [results, Try.results34, go_sem]) rfl ⟨rfl, (Below.refl _ _).alloc (Nat.le_refl _) _⟩

theorem Try.info43 : (Try.prog.info? 43).map (fun i => (i.zero, i.size, i.bytes)) = some (some (.agg #[.int .i64 0, .string ByteArray.empty, .int .i64 0]), 3, 32) := by kernel_rfl

def mkTok (zs : List Int) (ss : List ByteArray) (i : Nat) : Tok := ⟨zs.getD i 0, ss.getD i ByteArray.empty, (i : Int)⟩

/-- k tokens are made, of n, in block B -/
def MkAt (w : World) (zs : List Int) (ss : List ByteArray) (n k : Nat) (wr : World) : Prop :=
  Below w.heap.size w wr ∧ w.heap.size < wr.heap.size ∧ (∀ j, j < n * 3 → wr.frozen? ⟨w.heap.size, j, none⟩ = false ∧ (wr.cell? ⟨w.heap.size, j, none⟩).isSome = true) ∧
  ∀ i, i < k → TokHere wr w.heap.size (i * 3) (mkTok zs ss i)

theorem MkAt.start {w w0 : World} {zs : List Int} {ss : List ByteArray} {n : Nat} {xs : List Value} (hown : w0.ownsRow w.heap.size 43 3 (.slice (some ⟨w.heap.size, 0, none⟩) n n) n xs) (hg : w.grownBy w0 none) : MkAt w zs ss n 0 w0 := by
  refine ⟨(Below.refl _ _).grown hg (Nat.le_refl _) (fun k h => by cases h), (hown.lt _ rfl).2, fun j hj => ⟨hown.frozenAt j, ?_⟩, fun i hi => absurd hi (by omega)⟩
  rw [hown.cellAt j hj, List.getElem?_eq_getElem (by rw [hown.1]; exact hj)]
  rfl

theorem set3 (w : World) (B p : Nat) (a b c : Value) (h0 : (w.cell? ⟨B, p, none⟩).isSome = true) (h1 : (w.cell? ⟨B, p + 1, none⟩).isSome = true) (h2 : (w.cell? ⟨B, p + 2, none⟩).isSome = true) :
    (((w.setCell ⟨B, p, none⟩ a).setCell ⟨B, p + 1, none⟩ b).setCell ⟨B, p + 2, none⟩ c).cell? ⟨B, p, none⟩ = some a ∧
    (((w.setCell ⟨B, p, none⟩ a).setCell ⟨B, p + 1, none⟩ b).setCell ⟨B, p + 2, none⟩ c).cell? ⟨B, p + 1, none⟩ = some b ∧
    (((w.setCell ⟨B, p, none⟩ a).setCell ⟨B, p + 1, none⟩ b).setCell ⟨B, p + 2, none⟩ c).cell? ⟨B, p + 2, none⟩ = some c := by
  have n01 : (⟨B, p + 1, none⟩ : Addr) ≠ ⟨B, p, none⟩ := by simp
  have n02 : (⟨B, p + 2, none⟩ : Addr) ≠ ⟨B, p, none⟩ := by simp
  have n12 : (⟨B, p + 2, none⟩ : Addr) ≠ ⟨B, p + 1, none⟩ := by simp
  obtain ⟨v0, h0⟩ := Option.isSome_iff_exists.1 h0
  obtain ⟨v1, h1⟩ := Option.isSome_iff_exists.1 h1
  obtain ⟨v2, h2⟩ := Option.isSome_iff_exists.1 h2
  refine ⟨?_, ?_, ?_⟩
  · rw [World.cell?_setCell_other _ _ _ _ n02, World.cell?_setCell_other _ _ _ _ n01, World.cell?_setCell_same _ _ _ h0]
  · rw [World.cell?_setCell_other _ _ _ _ n12, World.cell?_setCell_same _ _ _ (u := v1) (by rw [World.cell?_setCell_other _ _ _ _ n01.symm]; exact h1)]
  · rw [World.cell?_setCell_same _ _ _ (u := v2) (by rw [World.cell?_setCell_other _ _ _ _ n12.symm, World.cell?_setCell_other _ _ _ _ n02.symm]; exact h2)]

theorem set3_other (w : World) (B p q : Nat) (a b c : Value) (h : q < p ∨ p + 2 < q) :
    (((w.setCell ⟨B, p, none⟩ a).setCell ⟨B, p + 1, none⟩ b).setCell ⟨B, p + 2, none⟩ c).cell? ⟨B, q, none⟩ = w.cell? ⟨B, q, none⟩ := by
  have n0 : (⟨B, p, none⟩ : Addr) ≠ ⟨B, q, none⟩ := by intro e; injection e with _ e _; omega
  have n1 : (⟨B, p + 1, none⟩ : Addr) ≠ ⟨B, q, none⟩ := by intro e; injection e with _ e _; omega
  have n2 : (⟨B, p + 2, none⟩ : Addr) ≠ ⟨B, q, none⟩ := by intro e; injection e with _ e _; omega
  rw [World.cell?_setCell_other _ _ _ _ n2, World.cell?_setCell_other _ _ _ _ n1, World.cell?_setCell_other _ _ _ _ n0]

theorem MkAt.step {w wr w1 : World} {zs : List Int} {ss : List ByteArray} {n k : Nat} {z : Int} {s : ByteArray} (h : MkAt w zs ss n k wr) (hk : k < n) (hz : zs[k]? = some z) (hs : ss[k]? = some s) (hb : Below wr.heap.size wr w1) :
    MkAt w zs ss n (k + 1) (((w1.setCell ⟨w.heap.size, k * 3, none⟩ (.int .i64 z)).setCell ⟨w.heap.size, k * 3 + 1, none⟩ (.string s)).setCell ⟨w.heap.size, k * 3 + 2, none⟩ (.int .i64 (k : Int))) := by
  obtain ⟨h1, h2, h3, h4⟩ := h
  have g3 : ∀ j, j < n * 3 → w1.frozen? ⟨w.heap.size, j, none⟩ = false ∧ (w1.cell? ⟨w.heap.size, j, none⟩).isSome = true := fun j hj => by
    rw [hb.frozen h2, hb.cell h2]; exact h3 j hj
  have T := set3 w1 w.heap.size (k * 3) (.int .i64 z) (.string s) (.int .i64 (k : Int)) (g3 _ (by omega)).2 (g3 _ (by omega)).2 (g3 _ (by omega)).2
  refine ⟨(((h1.trans (hb.mono (by omega))).setCell (Nat.le_refl _) _).setCell (Nat.le_refl _) _).setCell (Nat.le_refl _) _, ?_, fun j hj => ⟨?_, ?_⟩, fun i hi => ?_⟩
  · have := hb.size; simp [World.setCell]; omega
  · simpa using (g3 j hj).1
  · by_cases hj3 : j < k * 3 ∨ k * 3 + 2 < j
    · rw [set3_other _ _ _ _ _ _ _ hj3]; exact (g3 j hj).2
    · obtain rfl | rfl | rfl : j = k * 3 ∨ j = k * 3 + 1 ∨ j = k * 3 + 2 := by omega
      · rw [T.1]; rfl
      · rw [T.2.1]; rfl
      · rw [T.2.2]; rfl
  · by_cases hik : i < k
    · have hh := (h4 i hik).below hb
      exact ⟨by rw [set3_other _ _ _ _ _ _ _ (by omega)]; exact hh.1, by rw [set3_other _ _ _ _ _ _ _ (by omega)]; exact hh.2.1, by rw [set3_other _ _ _ _ _ _ _ (by omega)]; exact hh.2.2⟩
    · obtain rfl : i = k := by omega
      have e1 : (mkTok zs ss i).kind = z := by simp [mkTok, List.getD, hz]
      have e2 : (mkTok zs ss i).text = s := by simp [mkTok, List.getD, hs]
      exact ⟨by rw [e1]; exact T.1, by rw [e2]; exact T.2.1, T.2.2⟩

theorem MkAt.done {w wr : World} {zs : List Int} {ss : List ByteArray} {n : Nat} (h : MkAt w zs ss n n wr) : TokSl wr (some ⟨w.heap.size, 0, none⟩) ((List.range n).map (mkTok zs ss)) := by
  intro i t hi
  simp only [List.getElem?_map, List.getElem?_range'] at hi
  by_cases hin : i < n
  · rw [List.getElem?_range hin] at hi
    simp at hi
    subst hi
    exact ⟨_, _, rfl, by rw [Nat.zero_add]; exact h.2.2.2 i hin⟩
  · rw [List.getElem?_eq_none (by simpa using hin)] at hi
    cases hi

set_option maxHeartbeats 1000000 in
theorem make_any (zs : List Int) (ss : List ByteArray) (ka ta : Option Addr) (kl tl kc tc : Nat) (w : World) (hz : zs.length = kl) (hs : ss.length = tl) (hkl : kl ≤ 65536) (htl : tl ≤ 65536) (hk : IntSl w ka zs) (ht : StrSl w ta ss) :
    Calls Try.prog 20 #[.slice ka kl kc, .slice ta tl tc, .int .i64 0] w fun e w' => ∃ T : List Tok, e = .returned (.slice (some ⟨w.heap.size, 0, none⟩) T.length T.length) ∧ T.length ≤ 65536 ∧
      TokSl w' (some ⟨w.heap.size, 0, none⟩) T ∧ Below w.heap.size w w' ∧ w.heap.size < w'.heap.size := by
  obtain ⟨i0, hi, hz0, hz1, hz2⟩ := info_parts Try.info43
  have HZ : Hid _ := hz
  have HS : Hid _ := hs
  clear hz hs
  by_cases hlt : tl < kl
  · go_enter Try.func20, Try.ntmps20
    go_wp2_with (at_make; go_must (refine wpList_make_full _ rfl _ _ 35 rfl w.heap.size 43 i0 _ 3 Try.underlying35 hi hz0 hz1 _ _ _ _ tl rfl rfl rfl rfl (by rw [hz2]; omega) (by unfold maxLen; omega) (Nat.le_refl _) ?_))
    intro w0 hown hg
    have M0 : Hid _ := MkAt.start (zs := zs) (ss := ss) hown hg
    clear hown hg
    go_wp2
    go_loopw [9] (fun i wr => ∃ k : Nat, k ≤ tl ∧ i = .int .i64 k ∧ MkAt w zs ss tl k wr) (fun i _ => tl - (intOf i).toNat)
    case atStart => exact ⟨0, Nat.zero_le _, rfl, M0.out⟩
    case round =>
      obtain ⟨k, hk', rfl, hM⟩ := hrel
      by_cases hlt' : k < tl
      · obtain ⟨z, hz⟩ : ∃ z, zs[k]? = some z := ⟨_, List.getElem?_eq_getElem (by rw [HZ.out]; omega)⟩
        obtain ⟨s, hs⟩ : ∃ s, ss[k]? = some s := ⟨_, List.getElem?_eq_getElem (by rw [HS.out]; omega)⟩
        obtain ⟨b, o, rfl, cz⟩ := hk k z hz
        obtain ⟨b', o', rfl, cs⟩ := ht k s hs
        have cz' : wr.cell? ⟨b, o + k, none⟩ = some (.int .i64 z) := (hM.1.cell (World.block_lt_of_cell? w _ cz)).trans cz
        have cs' : wr.cell? ⟨b', o' + k, none⟩ = some (.string s) := (hM.1.cell (World.block_lt_of_cell? w _ cs)).trans cs
        have lz := World.block_lt_of_cell? wr _ cz'
        have ls := World.block_lt_of_cell? wr _ cs'
        have lB := hM.2.1
        have F : ∀ w1, Below wr.heap.size wr w1 → (w1.frozen? ⟨w.heap.size, k * 3, none⟩ = false ∧ (w1.cell? ⟨w.heap.size, k * 3, none⟩).isSome = true) ∧ (w1.frozen? ⟨w.heap.size, k * 3 + 1, none⟩ = false ∧ (w1.cell? ⟨w.heap.size, k * 3 + 1, none⟩).isSome = true) ∧ (w1.frozen? ⟨w.heap.size, k * 3 + 2, none⟩ = false ∧ (w1.cell? ⟨w.heap.size, k * 3 + 2, none⟩).isSome = true) := fun w1 hb => by
          rw [hb.frozen lB, hb.cell lB, hb.frozen lB, hb.cell lB, hb.frozen lB, hb.cell lB]
          exact ⟨hM.2.2.1 _ (by omega), hM.2.2.1 _ (by omega), hM.2.2.1 _ (by omega)⟩
        have HF : Hid _ := F
        clear F
        have hlI : (k : Int) < (tl : Int) := by omega
        have hlK : (k : Int) < (kl : Int) := by omega
        have h0I : (0 : Int) ≤ (k : Int) := by omega
        have nz : ¬ b = w.heap.size := by have := World.block_lt_of_cell? w _ cz; simp only at this; omega
        have ns : ¬ b' = w.heap.size := by have := World.block_lt_of_cell? w _ cs; simp only at this; omega
        have nz' : ¬ w.heap.size = b := fun e => nz e.symm
        have ns' : ¬ w.heap.size = b' := fun e => ns e.symm
        have HM : Hid _ := hM
        have HZK : Hid _ := hz
        have HSK : Hid _ := hs
        clear hM hk ht cz cs hz hs
        go_wp2
        go_region_held3 (fun w' => w'.cell? ⟨b, o + k, none⟩ = some (.int .i64 z) ∧ w'.cell? ⟨b', o' + k, none⟩ = some (.string s)) (go_keep)
          (first | (go_at_call 34; refine (zmake_any _ _ _ _).mono ?_; rintro e w1 ⟨rfl, hb0⟩; have hb1 : Below wr.heap.size wr w1 := ((Below.refl _ wr).drew).trans hb0; obtain ⟨⟨f0, g0⟩, ⟨f1, g1⟩, ⟨f2, g2⟩⟩ := HF.out w1 hb1; obtain ⟨v0, g0⟩ := Option.isSome_iff_exists.1 g0; obtain ⟨v1, g1⟩ := Option.isSome_iff_exists.1 g1; obtain ⟨v2, g2⟩ := Option.isSome_iff_exists.1 g2; have e1 := (hb1.cell lz).trans cz'; have e2 := (hb1.cell ls).trans cs'))
        go_wp2
        go_roundw
        case rel => exact ⟨k + 1, by omega, by go_num, MkAt.step HM.out hlt' HZK.out HSK.out hb1⟩
        case measure => simp [intOf]; omega
      · obtain rfl : k = tl := by omega
        go_wp2
        go_ret
        exact ⟨(List.range k).map (mkTok zs ss), by simp, by simp; omega, hM.done, hM.1, hM.2.1⟩
  · go_enter Try.func20, Try.ntmps20
    go_wp2_with (at_make; go_must (refine wpList_make_full _ rfl _ _ 35 rfl w.heap.size 43 i0 _ 3 Try.underlying35 hi hz0 hz1 _ _ _ _ kl rfl rfl rfl rfl (by rw [hz2]; omega) (by unfold maxLen; omega) (Nat.le_refl _) ?_))
    intro w0 hown hg
    have M0 : Hid _ := MkAt.start (zs := zs) (ss := ss) hown hg
    clear hown hg
    go_wp2
    go_loopw [9] (fun i wr => ∃ k : Nat, k ≤ kl ∧ i = .int .i64 k ∧ MkAt w zs ss kl k wr) (fun i _ => kl - (intOf i).toNat)
    case atStart => exact ⟨0, Nat.zero_le _, rfl, M0.out⟩
    case round =>
      obtain ⟨k, hk', rfl, hM⟩ := hrel
      by_cases hlt' : k < kl
      · obtain ⟨z, hz⟩ : ∃ z, zs[k]? = some z := ⟨_, List.getElem?_eq_getElem (by rw [HZ.out]; omega)⟩
        obtain ⟨s, hs⟩ : ∃ s, ss[k]? = some s := ⟨_, List.getElem?_eq_getElem (by rw [HS.out]; omega)⟩
        obtain ⟨b, o, rfl, cz⟩ := hk k z hz
        obtain ⟨b', o', rfl, cs⟩ := ht k s hs
        have cz' : wr.cell? ⟨b, o + k, none⟩ = some (.int .i64 z) := (hM.1.cell (World.block_lt_of_cell? w _ cz)).trans cz
        have cs' : wr.cell? ⟨b', o' + k, none⟩ = some (.string s) := (hM.1.cell (World.block_lt_of_cell? w _ cs)).trans cs
        have lz := World.block_lt_of_cell? wr _ cz'
        have ls := World.block_lt_of_cell? wr _ cs'
        have lB := hM.2.1
        have F : ∀ w1, Below wr.heap.size wr w1 → (w1.frozen? ⟨w.heap.size, k * 3, none⟩ = false ∧ (w1.cell? ⟨w.heap.size, k * 3, none⟩).isSome = true) ∧ (w1.frozen? ⟨w.heap.size, k * 3 + 1, none⟩ = false ∧ (w1.cell? ⟨w.heap.size, k * 3 + 1, none⟩).isSome = true) ∧ (w1.frozen? ⟨w.heap.size, k * 3 + 2, none⟩ = false ∧ (w1.cell? ⟨w.heap.size, k * 3 + 2, none⟩).isSome = true) := fun w1 hb => by
          rw [hb.frozen lB, hb.cell lB, hb.frozen lB, hb.cell lB, hb.frozen lB, hb.cell lB]
          exact ⟨hM.2.2.1 _ (by omega), hM.2.2.1 _ (by omega), hM.2.2.1 _ (by omega)⟩
        have HF : Hid _ := F
        clear F
        have hlI : (k : Int) < (tl : Int) := by omega
        have hlK : (k : Int) < (kl : Int) := by omega
        have h0I : (0 : Int) ≤ (k : Int) := by omega
        have nz : ¬ b = w.heap.size := by have := World.block_lt_of_cell? w _ cz; simp only at this; omega
        have ns : ¬ b' = w.heap.size := by have := World.block_lt_of_cell? w _ cs; simp only at this; omega
        have nz' : ¬ w.heap.size = b := fun e => nz e.symm
        have ns' : ¬ w.heap.size = b' := fun e => ns e.symm
        have HM : Hid _ := hM
        have HZK : Hid _ := hz
        have HSK : Hid _ := hs
        clear hM hk ht cz cs hz hs
        go_wp2
        go_region_held3 (fun w' => w'.cell? ⟨b, o + k, none⟩ = some (.int .i64 z) ∧ w'.cell? ⟨b', o' + k, none⟩ = some (.string s)) (go_keep)
          (first | (go_at_call 34; refine (zmake_any _ _ _ _).mono ?_; rintro e w1 ⟨rfl, hb0⟩; have hb1 : Below wr.heap.size wr w1 := ((Below.refl _ wr).drew).trans hb0; obtain ⟨⟨f0, g0⟩, ⟨f1, g1⟩, ⟨f2, g2⟩⟩ := HF.out w1 hb1; obtain ⟨v0, g0⟩ := Option.isSome_iff_exists.1 g0; obtain ⟨v1, g1⟩ := Option.isSome_iff_exists.1 g1; obtain ⟨v2, g2⟩ := Option.isSome_iff_exists.1 g2; have e1 := (hb1.cell lz).trans cz'; have e2 := (hb1.cell ls).trans cs'))
        go_wp2
        go_roundw
        case rel => exact ⟨k + 1, by omega, by go_num, MkAt.step HM.out hlt' HZK.out HSK.out hb1⟩
        case measure => simp [intOf]; omega
      · obtain rfl : k = kl := by omega
        go_wp2
        go_ret
        exact ⟨(List.range k).map (mkTok zs ss), by simp, by simp; omega, hM.done, hM.1, hM.2.1⟩

end Go.Proofs.Qxb6001401a
