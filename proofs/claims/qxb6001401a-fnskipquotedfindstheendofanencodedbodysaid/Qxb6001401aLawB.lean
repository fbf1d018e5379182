/- The walk of FnSkipQuotedFindsTheEndOfAnEncodedBody. -/
import Derived.Test.Qxb6001401aBuf
import Derived.OpenShut
import Derived.ShutString
import Derived.Deep.QuietTactic
import Derived.BigQuiet
import Derived.WalkSmall
set_option linter.unusedSimpArgs false
set_option linter.unusedVariables false
namespace Go.Proofs.Qxb6001401a
open Go.ChangeShapes Go.WideShapes Go.ChangeAt Go.RowKit

theorem bytesB_yes (p b t : ByteArray) (q : Int) (bs : Bool) (l : Int) (w : World) (h : p.size + b.size + t.size ≤ 1048576) :
    Calls Try.prog 15 #[.string p, .string b, .string t, .int .u8 q, .bool bs, .int .i64 l] w fun e w' => e = .returned (.bool true) ∧ w' = w := by
  go_enter Try.func15, Try.ntmps15
  go_wp2
  go_ret
  exact ⟨rfl, rfl⟩

theorem bytesB_no (p b t : ByteArray) (q : Int) (bs : Bool) (l : Int) (w : World) (hp : p.size ≤ maxLen) (hb : b.size ≤ maxLen) (ht : t.size ≤ maxLen) (h : ¬ p.size + b.size + t.size ≤ 1048576) :
    Calls Try.prog 15 #[.string p, .string b, .string t, .int .u8 q, .bool bs, .int .i64 l] w fun e w' => e = .returned (.bool false) ∧ w' = w := by
  unfold maxLen at hp hb ht
  by_cases h1 : 1048576 < p.size
  · go_enter Try.func15, Try.ntmps15
    go_wp2
    go_ret
    exact ⟨rfl, rfl⟩
  · by_cases h2 : 1048576 < b.size
    · go_enter Try.func15, Try.ntmps15
      go_wp2
      go_ret
      exact ⟨rfl, rfl⟩
    · by_cases h3 : 1048576 < p.size + b.size
      · go_enter Try.func15, Try.ntmps15
        go_wp2
        go_ret
        exact ⟨rfl, rfl⟩
      · by_cases h4 : 1048576 < t.size
        · go_enter Try.func15, Try.ntmps15
          go_wp2
          go_ret
          exact ⟨rfl, rfl⟩
        · go_enter Try.func15, Try.ntmps15
          go_wp2
          go_ret
          exact ⟨rfl, rfl⟩

theorem lawB_long (p b t : ByteArray) (q : Int) (bs : Bool) (l : Int) (w : World) (hp : p.size ≤ maxLen) (hb : b.size ≤ maxLen) (ht : t.size ≤ maxLen) (h : ¬ p.size + b.size + t.size ≤ 1048576) :
    Calls Try.prog 4 #[.string p, .string b, .string t, .int .u8 q, .bool bs, .int .i64 l] w fun e w' => e = .returned (.bool true) ∧ Below w.heap.size w w' := by
  go_enter Try.func4, Try.ntmps4
  go_wp2_with (go_at_call 15; refine (bytesB_no _ _ _ _ _ _ _ hp hb ht h).mono ?_; rintro e w' ⟨rfl, rfl⟩)
  go_ret
  exact ⟨rfl, Below.refl _ _⟩

theorem lawB_big (p b t : ByteArray) (q : Int) (bs : Bool) (l : Int) (w : World) (h : p.size + b.size + t.size ≤ 1048576) (h2 : 262144 < p.size ∨ 262144 < b.size ∨ 262144 < t.size) :
    Calls Try.prog 4 #[.string p, .string b, .string t, .int .u8 q, .bool bs, .int .i64 l] w fun e w' => e = .returned (.bool true) ∧ Below w.heap.size w w' := by
  by_cases h1 : 262144 < p.size
  · clear h2
    go_enter Try.func4, Try.ntmps4
    go_wp2_with (go_at_call 15; refine (bytesB_yes _ _ _ _ _ _ _ h).mono ?_; rintro e w' ⟨rfl, rfl⟩)
    go_ret
    exact ⟨rfl, Below.refl _ _⟩
  · by_cases h3 : 262144 < b.size
    · clear h2
      go_enter Try.func4, Try.ntmps4
      go_wp2_with (go_at_call 15; refine (bytesB_yes _ _ _ _ _ _ _ h).mono ?_; rintro e w' ⟨rfl, rfl⟩)
      go_ret
      exact ⟨rfl, Below.refl _ _⟩
    · have h4 : 262144 < t.size := by omega
      clear h2
      go_enter Try.func4, Try.ntmps4
      go_wp2_with (go_at_call 15; refine (bytesB_yes _ _ _ _ _ _ _ h).mono ?_; rintro e w' ⟨rfl, rfl⟩)
      go_ret
      exact ⟨rfl, Below.refl _ _⟩

theorem lawB_odd (p b t : ByteArray) (q : Int) (bs : Bool) (l : Int) (w : World) (h : p.size + b.size + t.size ≤ 1048576) (h1 : ¬ 262144 < p.size) (h2 : ¬ 262144 < b.size) (h3 : ¬ 262144 < t.size) (hq : q = 10 ∨ q = 92) :
    Calls Try.prog 4 #[.string p, .string b, .string t, .int .u8 q, .bool bs, .int .i64 l] w fun e w' => e = .returned (.bool true) ∧ Below w.heap.size w w' := by
  rcases hq with rfl | rfl
  · go_enter Try.func4, Try.ntmps4
    go_wp2_with (go_at_call 15; refine (bytesB_yes _ _ _ _ _ _ _ h).mono ?_; rintro e w' ⟨rfl, rfl⟩)
    go_ret
    exact ⟨rfl, Below.refl _ _⟩
  · go_enter Try.func4, Try.ntmps4
    go_wp2_with (go_at_call 15; refine (bytesB_yes _ _ _ _ _ _ _ h).mono ?_; rintro e w' ⟨rfl, rfl⟩)
    go_ret
    exact ⟨rfl, Below.refl _ _⟩

theorem lawB_tail (p b t : ByteArray) (q : UInt8) (bs : Bool) (l : Int) (w : World) (h : p.size + b.size + t.size ≤ 1048576) (h1 : ¬ 262144 < p.size) (h2 : ¬ 262144 < b.size) (h3 : ¬ 262144 < t.size)
    (hq1 : ((q.toNat : Int) == 10) = false) (hq2 : ((q.toNat : Int) == 92) = false) (ht : 0 < t.size) (hq : ((t[0].toNat : Int) == (q.toNat : Int)) = true) :
    Calls Try.prog 4 #[.string p, .string b, .string t, .int .u8 q.toNat, .bool bs, .int .i64 l] w fun e w' => e = .returned (.bool true) ∧ Below w.heap.size w w' := by
  go_enter Try.func4, Try.ntmps4
  go_wp2_with (go_at_call 15; refine (bytesB_yes _ _ _ _ _ _ _ h).mono ?_; rintro e w' ⟨rfl, rfl⟩)
  go_ret
  exact ⟨rfl, Below.refl _ _⟩

theorem byte_ofB (a : Int) (h : (Lit.int .u8 a).wf = true) : ∃ q : UInt8, a = (q.toNat : Int) := by
  have := bounds_u8 h
  refine ⟨UInt8.ofNat a.toNat, ?_⟩
  simp
  omega

theorem ret_trueB {b : Bool} (h : b = true) : Ending.returned (.bool b) = .returned (.bool true) := by rw [h]

theorem diff_trueB (l : Int) (m : Nat) (hm : m ≤ 1048576) : (wrap64 (wrap64 (l + m) - l) == (m : Int)) = true := by
  rw [beq_iff_eq]
  unfold wrap64
  omega

/-- the tail does not open with the quote: either it is empty, or its first byte is another -/
theorem head_not (t : ByteArray) (q : UInt8) (h : t.size = 0 ∨ ∃ ht : 0 < t.size, ((t[0].toNat : Int) == (q.toNat : Int)) = false) : t.data.toList.head? ≠ some q := by
  rcases h with h | ⟨ht, h⟩
  · have : t.data.toList = [] := List.eq_nil_of_length_eq_zero (by simpa using h)
    rw [this]; simp
  · have := drop_at t 0 ht
    rw [List.drop_zero] at this
    rw [this]
    have := (byte_ne _ _).1 h
    simpa using this

set_option maxHeartbeats 1000000 in
theorem lawB_main (p b t : ByteArray) (q : UInt8) (bs : Bool) (l : Int) (w : World) (h : p.size + b.size + t.size ≤ 1048576) (h1 : ¬ 262144 < p.size) (h2 : ¬ 262144 < b.size) (h3 : ¬ 262144 < t.size) (hl : (Lit.int .i64 l).wf = true)
    (hq1 : ((q.toNat : Int) == 10) = false) (hq2 : ((q.toNat : Int) == 92) = false) (ht : t.size = 0 ∨ ∃ ht : 0 < t.size, ((t[0].toNat : Int) == (q.toNat : Int)) = false) :
    Calls Try.prog 4 #[.string p, .string b, .string t, .int .u8 q.toNat, .bool bs, .int .i64 l] w fun e w' => e = .returned (.bool true) ∧ Below w.heap.size w w' := by
  have hlb := bounds_i64 hl
  clear hl
  have CE := fun w1 => enc_any b q bs w1 (by omega)
  have sk0 := Qx401.sk_encoded q bs ((byte10n _).1 hq1) ((byte92n _).1 hq2) b.data.toList t.data.toList (head_not t q ht)
  have el := Qx401.enc_length q bs b.data.toList
  have nb := nl_le b.data.toList
  have bl : b.data.toList.length = b.size := by simp
  rw [bl] at el nb
  clear bl
  generalize Qx401.enc q bs b.data.toList = E at *
  generalize hnl : Qx401.nl b.data.toList = m at *
  have CN := fun w1 => nl_any b w1 (by unfold maxLen; omega)
  rw [hnl] at CN
  clear hnl
  obtain ⟨S, hS⟩ : ∃ S : ByteArray, S = ⟨(p.data.toList ++ E ++ [q] ++ t.data.toList).toArray⟩ := ⟨_, rfl⟩
  have hSs : S.size = p.size + E.length + 1 + t.size := by rw [hS]; show (p.data.toList ++ E ++ [q] ++ t.data.toList).toArray.size = _; simp; omega
  have hSd : S.data.toList.drop p.size = E ++ q :: t.data.toList := by rw [hS]; simp
  have CS := fun (g : Nat) (w1 : World) => zskip_any S p.size q bs g l w1 (by unfold maxLen; omega) (by omega) (IntWalk.wrap64_in l hlb)
  rw [hSd, sk0] at CS
  have HS : Hid _ := hS
  have HCS : Hid _ := CS
  have HCE : Hid _ := CE
  have HCN : Hid _ := CN
  have heq : (((p.size : Int) + ((E.length : Int) + 1)) == ((p.size : Int) + (E.length : Int) + 1)) = true := by rw [beq_iff_eq]; omega
  clear CS CE CN hS hSd hSs sk0
  have main : Calls Try.prog 4 #[.string p, .string b, .string t, .int .u8 q.toNat, .bool bs, .int .i64 l] w fun e w' => e = .returned (.bool true) ∧ Below w.heap.size w w' := by
    have ht' : (t.size : Int) ≤ 0 ∨ ∃ ht : 0 < t.size, ((t[0].toNat : Int) == (q.toNat : Int)) = false := by
      rcases ht with ht | ht
      · exact .inl (by omega)
      · exact .inr ht
    clear ht
    rcases ht' with ht | ⟨ht, htq⟩
    all_goals
      go_enter Try.func4, Try.ntmps4
      go_wp2_with (go_at_call 15; refine (bytesB_yes _ _ _ _ _ _ _ h).mono ?_; rintro e w' ⟨rfl, rfl⟩)
      refine Calls.mono (HCE.out _) ?_
      rintro e w1 ⟨rfl, hown1, hb1⟩
      have hlt := (hown1.lt _ rfl).2
      have hsz1 := hb1.size
      go_wp2_with (first | (at_make; go_must (refine wpList_buf_make rfl _ _ rfl _ (p.size + E.length + 1 + t.size) rfl rfl (by omega) (by omega) ?_); intro w2 hB2) | (at_builtin; refine wpList_buf_str rfl (.tmp 68) (.tmp 69) rfl rfl hB2 p rfl (by simp; omega) ?_; intro v3 w3 hB3) | (at_builtin; refine wpList_buf_bytes rfl (.tmp 71) (.tmp 72) rfl rfl hB3 E _ _ _ rfl rfl (fun j u hu => ((hB3.2.1).cell (by rw [Addr.add_lit]; exact hlt)).trans (hown1.cells (g := _) rfl j u hu)) (by simp; omega) ?_; intro v4 w4 hB4) | (at_builtin; refine wpList_buf_byte rfl (.tmp 74) (.tmp 76) rfl rfl hB4 q rfl (by simp; omega) ?_; intro v5 w5 hB5) | (at_builtin; refine wpList_buf_str rfl (.tmp 78) (.tmp 79) rfl rfl hB5 t rfl (by simp; omega) ?_))
      intro v6 w6 hB6
      have hcv : ∀ o, (convert 28 9 v6).run Try.prog (w6.alloc o) = .ok (.string S) (w6.alloc o) := fun o => by
        have := (hB6.alloc o).conv
        rw [HS.out]
        simpa using this
      have hb6 : Below w'.heap.size w' w6 := hb1.trans (hB6.2.1.mono hsz1)
      have hsz6 := hb6.size
      clear hB6 hB5 hB4 hB3 hB2 hown1 hb1 HCE
      go_wp2_with fail
      refine Calls.mono (HCS.out _ _ (by simp) (by simp)) ?_
      rintro e w7 ⟨rfl, hcl, hfr, hb7⟩
      have hb8 : Below w'.heap.size w' w7 := (hb6.alloc hsz6 _).trans (hb7.mono hsz6)
      clear HCS hcv hb7 hb6
      go_wp2
      go_quiet (first | (go_at_call 14; exact Calls.quiet_of_same (HCN.out _)))
      go_wp2
      go_ret
      exact ⟨ret_trueB (diff_trueB l m (by omega)), below_drewN hb8 _⟩
  exact main

end Go.Proofs.Qxb6001401a
