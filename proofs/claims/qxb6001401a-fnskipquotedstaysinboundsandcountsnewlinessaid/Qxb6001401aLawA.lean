/- The walk of FnSkipQuotedStaysInBoundsAndCountsNewlines. -/
import Derived.Test.Qxb6001401aSkip
import Derived.OpenShut
import Derived.ShutString
import Derived.Deep.QuietTactic
import Derived.BigQuiet
import Derived.WalkSmall
set_option linter.unusedSimpArgs false
set_option linter.unusedVariables false
namespace Go.Proofs.Qxb6001401a
open Go.ChangeShapes Go.WideShapes Go.ChangeAt Go.RowKit
open Go.ChangeMaps (open_string shut_string)

theorem bytesA_yes (s : ByteArray) (i q : Int) (bs : Bool) (l : Int) (w : World) (h : s.size ≤ 1048576) :
    Calls Try.prog 12 #[.string s, .int .i64 i, .int .u8 q, .bool bs, .int .i64 l] w fun e w' => e = .returned (.bool true) ∧ w' = w := by
  go_enter Try.func12, Try.ntmps12
  go_wp2
  go_ret
  exact ⟨rfl, rfl⟩

theorem bytesA_no (s : ByteArray) (i q : Int) (bs : Bool) (l : Int) (w : World) (h : 1048576 < s.size) :
    Calls Try.prog 12 #[.string s, .int .i64 i, .int .u8 q, .bool bs, .int .i64 l] w fun e w' => e = .returned (.bool false) ∧ w' = w := by
  go_enter Try.func12, Try.ntmps12
  go_wp2
  go_ret
  exact ⟨rfl, rfl⟩

theorem byte_of (a : Int) (h : (Lit.int .u8 a).wf = true) : ∃ q : UInt8, a = (q.toNat : Int) := by
  have := bounds_u8 h
  refine ⟨UInt8.ofNat a.toNat, ?_⟩
  simp
  omega

theorem lawA_short (s : ByteArray) (i q : Int) (bs : Bool) (l : Int) (w : World) (h : 1048576 < s.size) :
    Calls Try.prog 3 #[.string s, .int .i64 i, .int .u8 q, .bool bs, .int .i64 l] w fun e w' => e = .returned (.bool true) ∧ Below w.heap.size w w' := by
  go_enter Try.func3, Try.ntmps3
  go_wp2_with (go_at_call 12; refine (bytesA_no _ _ _ _ _ _ h).mono ?_; rintro e w' ⟨rfl, rfl⟩)
  go_ret
  exact ⟨rfl, Below.refl _ _⟩

theorem lawA_out (s : ByteArray) (i q : Int) (bs : Bool) (l : Int) (w : World) (h : s.size ≤ 1048576) (hi : i < 0 ∨ (s.size : Int) < i) :
    Calls Try.prog 3 #[.string s, .int .i64 i, .int .u8 q, .bool bs, .int .i64 l] w fun e w' => e = .returned (.bool true) ∧ Below w.heap.size w w' := by
  by_cases h0 : i < 0
  · clear hi
    go_enter Try.func3, Try.ntmps3
    go_wp2_with (go_at_call 12; refine (bytesA_yes _ _ _ _ _ _ h).mono ?_; rintro e w' ⟨rfl, rfl⟩)
    go_ret
    exact ⟨rfl, Below.refl _ _⟩
  · have h1 : (s.size : Int) < i := by omega
    clear hi
    go_enter Try.func3, Try.ntmps3
    go_wp2_with (go_at_call 12; refine (bytesA_yes _ _ _ _ _ _ h).mono ?_; rintro e w' ⟨rfl, rfl⟩)
    go_ret
    exact ⟨rfl, Below.refl _ _⟩

theorem ret_true {b : Bool} (h : b = true) : Ending.returned (.bool b) = .returned (.bool true) := by rw [h]

theorem diff_true (l : Int) (m k : Nat) (hm : m ≤ 1048576) (h : m = k) : (wrap64 (wrap64 (l + m) - l) == (k : Int)) = true := by
  subst h
  rw [beq_iff_eq]
  unfold wrap64
  omega

theorem at_of_drop (s : ByteArray) (i n : Nat) (hi : i ≤ s.size) (h : i + n < s.size) : (s.data.toList.drop i)[n]? = some s[i + n] := by
  rw [List.getElem?_drop, List.getElem?_eq_getElem (by simpa using h)]; rfl

theorem lawA_main (s : ByteArray) (i : Nat) (q : UInt8) (bs : Bool) (l : Int) (w : World) (h : s.size ≤ 1048576) (hi : i ≤ s.size) (hl : (Lit.int .i64 l).wf = true) :
    Calls Try.prog 3 #[.string s, .int .i64 i, .int .u8 q.toNat, .bool bs, .int .i64 l] w fun e w' => e = .returned (.bool true) ∧ Below w.heap.size w w' := by
  have hlb := bounds_i64 hl
  clear hl
  have C := fun (w1 : World) => zskip_any s i q bs w.heap.size l w1 (by unfold maxLen; omega) hi (IntWalk.wrap64_in l hlb)
  have G := (Qx401.sk_good q bs (s.data.toList.drop i)).1
  generalize Qx401.sk q bs (s.data.toList.drop i) = x at *
  obtain ⟨n, m, ok⟩ := x
  obtain ⟨g1, g2, g3, g4⟩ := G
  dsimp only at g1 g2 g3 g4
  have hj : i + n ≤ s.size := by simp at g1; omega
  have hm : m ≤ 1048576 := by
    have := nl_le (List.take n (List.drop i s.data.toList))
    simp at this
    omega
  have HC : Hid _ := C
  have HG2 : Hid _ := g2
  clear C g2 g1
  cases ok with
  | false =>
    have e4 := g4 rfl
    simp at e4
    have hjn : ((i + n : Nat) : Int) = (s.size : Int) := by omega
    have HJ : Hid _ := hjn
    have hne : (((i : Int) + (n : Int)) != (s.size : Int)) = false := by simp; omega
    clear g3 g4 hjn e4
    go_enter Try.func3, Try.ntmps3
    go_wp2_with (go_at_call 12; refine (bytesA_yes _ _ _ _ _ _ h).mono ?_; rintro e w' ⟨rfl, rfl⟩)
    refine Calls.mono (HC.out _ (by simp) (by simp)) ?_
    rintro e w1 ⟨rfl, hcl, hfr, hb⟩
    clear HC
    go_wp2
    go_quiet (first | (go_at_call 14; exact Calls.quiet_of_same (nl_any _ _ (by simp; unfold maxLen; omega))))
    go_wp2
    go_ret
    exact ⟨ret_true (diff_true l m _ hm HG2.out), below_drewN (((Below.refl _ _).alloc (Nat.le_refl _) _).trans hb) _⟩
  | true =>
    obtain ⟨e1, e2, e3⟩ := g3 rfl
    have hlt : i + n - 1 < s.size := by omega
    rw [show n - 1 = n - 1 from rfl, at_of_drop s i (n - 1) hi (by omega)] at e2
    have e2' : ((s[i + n - 1].toNat : Int) != (q.toNat : Int)) = false := by
      have : s[i + (n - 1)] = q := by simpa using e2
      have e : i + (n - 1) = i + n - 1 := by omega
      simp only [e] at this
      rw [this]; simp
    have hne : (((i : Int) + (n : Int)) == (i : Int)) = false := by simp; omega
    by_cases hend : i + n < s.size
    · rw [at_of_drop s i n hi hend] at e3
      have e3' : ((s[i + n].toNat : Int) == (q.toNat : Int)) = false := (byte_ne _ _).2 (by simpa using e3)
      clear g3 g4 e2 e3
      go_enter Try.func3, Try.ntmps3
      go_wp2_with (go_at_call 12; refine (bytesA_yes _ _ _ _ _ _ h).mono ?_; rintro e w' ⟨rfl, rfl⟩)
      refine Calls.mono (HC.out _ (by simp) (by simp)) ?_
      rintro e w1 ⟨rfl, hcl, hfr, hb⟩
      clear HC
      go_wp2
      go_quiet (first | (go_at_call 14; exact Calls.quiet_of_same (nl_any _ _ (by simp; unfold maxLen; omega))))
      go_wp2
      go_ret
      exact ⟨ret_true (diff_true l m _ hm HG2.out), below_drewN (((Below.refl _ _).alloc (Nat.le_refl _) _).trans hb) _⟩
    · clear g3 g4 e2 e3
      go_enter Try.func3, Try.ntmps3
      go_wp2_with (go_at_call 12; refine (bytesA_yes _ _ _ _ _ _ h).mono ?_; rintro e w' ⟨rfl, rfl⟩)
      refine Calls.mono (HC.out _ (by simp) (by simp)) ?_
      rintro e w1 ⟨rfl, hcl, hfr, hb⟩
      clear HC
      go_wp2
      go_quiet (first | (go_at_call 14; exact Calls.quiet_of_same (nl_any _ _ (by simp; unfold maxLen; omega))))
      go_wp2
      go_ret
      exact ⟨ret_true (diff_true l m _ hm HG2.out), below_drewN (((Below.refl _ _).alloc (Nat.le_refl _) _).trans hb) _⟩

end Go.Proofs.Qxb6001401a
