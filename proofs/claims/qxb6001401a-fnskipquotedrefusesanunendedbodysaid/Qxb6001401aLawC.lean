/- The walk of FnSkipQuotedRefusesAnUnendedBody. -/
import Derived.Test.Qxb6001401aBuf
import Derived.OpenShut
import Derived.ShutString
import Derived.Deep.QuietTactic
import Derived.BigQuiet
import Derived.WalkSmall
set_option linter.unusedSimpArgs false
set_option linter.unusedVariables false
namespace Go.Proofs.Qxb6001401a
open Go.ChangeShapes Go.WideShapes Go.ChangeAt Go.RowKit

theorem bytesC_yes (p b : ByteArray) (q : Int) (bs : Bool) (l : Int) (w : World) (h : p.size + b.size ≤ 1048576) :
    Calls Try.prog 17 #[.string p, .string b, .int .u8 q, .bool bs, .int .i64 l] w fun e w' => e = .returned (.bool true) ∧ w' = w := by
  go_enter Try.func17, Try.ntmps17
  go_wp2
  go_ret
  exact ⟨rfl, rfl⟩

theorem bytesC_no (p b : ByteArray) (q : Int) (bs : Bool) (l : Int) (w : World) (hp : p.size ≤ maxLen) (hb : b.size ≤ maxLen) (h : ¬ p.size + b.size ≤ 1048576) :
    Calls Try.prog 17 #[.string p, .string b, .int .u8 q, .bool bs, .int .i64 l] w fun e w' => e = .returned (.bool false) ∧ w' = w := by
  unfold maxLen at hp hb
  by_cases h1 : 1048576 < p.size
  · go_enter Try.func17, Try.ntmps17
    go_wp2
    go_ret
    exact ⟨rfl, rfl⟩
  · by_cases h2 : 1048576 < b.size
    · go_enter Try.func17, Try.ntmps17
      go_wp2
      go_ret
      exact ⟨rfl, rfl⟩
    · go_enter Try.func17, Try.ntmps17
      go_wp2
      go_ret
      exact ⟨rfl, rfl⟩

theorem lawC_long (p b : ByteArray) (q : Int) (bs : Bool) (l : Int) (w : World) (hp : p.size ≤ maxLen) (hb : b.size ≤ maxLen) (h : ¬ p.size + b.size ≤ 1048576) :
    Calls Try.prog 5 #[.string p, .string b, .int .u8 q, .bool bs, .int .i64 l] w fun e w' => e = .returned (.bool true) ∧ Below w.heap.size w w' := by
  go_enter Try.func5, Try.ntmps5
  go_wp2_with (go_at_call 17; refine (bytesC_no _ _ _ _ _ _ hp hb h).mono ?_; rintro e w' ⟨rfl, rfl⟩)
  go_ret
  exact ⟨rfl, Below.refl _ _⟩

theorem lawC_big (p b : ByteArray) (q : Int) (bs : Bool) (l : Int) (w : World) (h : p.size + b.size ≤ 1048576) (h2 : 262144 < p.size ∨ 262144 < b.size) :
    Calls Try.prog 5 #[.string p, .string b, .int .u8 q, .bool bs, .int .i64 l] w fun e w' => e = .returned (.bool true) ∧ Below w.heap.size w w' := by
  by_cases h1 : 262144 < p.size
  · clear h2
    go_enter Try.func5, Try.ntmps5
    go_wp2_with (go_at_call 17; refine (bytesC_yes _ _ _ _ _ _ h).mono ?_; rintro e w' ⟨rfl, rfl⟩)
    go_ret
    exact ⟨rfl, Below.refl _ _⟩
  · have h3 : 262144 < b.size := by omega
    clear h2
    go_enter Try.func5, Try.ntmps5
    go_wp2_with (go_at_call 17; refine (bytesC_yes _ _ _ _ _ _ h).mono ?_; rintro e w' ⟨rfl, rfl⟩)
    go_ret
    exact ⟨rfl, Below.refl _ _⟩

theorem lawC_odd (p b : ByteArray) (q : Int) (bs : Bool) (l : Int) (w : World) (h : p.size + b.size ≤ 1048576) (h1 : ¬ 262144 < p.size) (h2 : ¬ 262144 < b.size) (hq : q = 10 ∨ q = 92) :
    Calls Try.prog 5 #[.string p, .string b, .int .u8 q, .bool bs, .int .i64 l] w fun e w' => e = .returned (.bool true) ∧ Below w.heap.size w w' := by
  rcases hq with rfl | rfl
  · go_enter Try.func5, Try.ntmps5
    go_wp2_with (go_at_call 17; refine (bytesC_yes _ _ _ _ _ _ h).mono ?_; rintro e w' ⟨rfl, rfl⟩)
    go_ret
    exact ⟨rfl, Below.refl _ _⟩
  · go_enter Try.func5, Try.ntmps5
    go_wp2_with (go_at_call 17; refine (bytesC_yes _ _ _ _ _ _ h).mono ?_; rintro e w' ⟨rfl, rfl⟩)
    go_ret
    exact ⟨rfl, Below.refl _ _⟩

theorem byte_of' (a : Int) (h : (Lit.int .u8 a).wf = true) : ∃ q : UInt8, a = (q.toNat : Int) := by
  have := bounds_u8 h
  refine ⟨UInt8.ofNat a.toNat, ?_⟩
  simp
  omega

theorem ret_true' {b : Bool} (h : b = true) : Ending.returned (.bool b) = .returned (.bool true) := by rw [h]

theorem diff_true' (l : Int) (m : Nat) (hm : m ≤ 1048576) : (wrap64 (wrap64 (l + m) - l) == (m : Int)) = true := by
  rw [beq_iff_eq]
  unfold wrap64
  omega

set_option maxHeartbeats 1000000 in
theorem lawC_main (p b : ByteArray) (q : UInt8) (bs : Bool) (l : Int) (w : World) (h : p.size + b.size ≤ 1048576) (h1 : ¬ 262144 < p.size) (h2 : ¬ 262144 < b.size) (hl : (Lit.int .i64 l).wf = true)
    (hq1 : ((q.toNat : Int) == 10) = false) (hq2 : ((q.toNat : Int) == 92) = false) :
    Calls Try.prog 5 #[.string p, .string b, .int .u8 q.toNat, .bool bs, .int .i64 l] w fun e w' => e = .returned (.bool true) ∧ Below w.heap.size w w' := by
  have hlb := bounds_i64 hl
  clear hl
  have CE := fun w1 => enc_any b q bs w1 (by omega)
  have sk0 := Qx401.sk_unended q bs ((byte10n _).1 hq1) ((byte92n _).1 hq2) b.data.toList
  have el := Qx401.enc_length q bs b.data.toList
  have nb := nl_le b.data.toList
  have bl : b.data.toList.length = b.size := by simp
  rw [bl] at el nb
  clear bl
  generalize Qx401.enc q bs b.data.toList = E at *
  generalize hnl : Qx401.nl b.data.toList = m at *
  have CN := fun w1 => nl_any b w1 (by unfold maxLen; omega)
  rw [hnl] at CN
  clear hnl
  obtain ⟨S, hS⟩ : ∃ S : ByteArray, S = ⟨(p.data.toList ++ E).toArray⟩ := ⟨_, rfl⟩
  have hSs : S.size = p.size + E.length := by rw [hS]; show (p.data.toList ++ E).toArray.size = _; simp
  have hSd : S.data.toList.drop p.size = E := by rw [hS]; simp
  have CS := fun (g : Nat) (w1 : World) => zskip_any S p.size q bs g l w1 (by unfold maxLen; omega) (by omega) (IntWalk.wrap64_in l hlb)
  rw [hSd, sk0] at CS
  have HS : Hid _ := hS
  have HCS : Hid _ := CS
  have HCE : Hid _ := CE
  have HCN : Hid _ := CN
  clear CS CE CN hS hSd hSs sk0
  go_enter Try.func5, Try.ntmps5
  go_wp2_with (go_at_call 17; refine (bytesC_yes _ _ _ _ _ _ h).mono ?_; rintro e w' ⟨rfl, rfl⟩)
  refine Calls.mono (HCE.out _) ?_
  rintro e w1 ⟨rfl, hown1, hb1⟩
  have hlt := (hown1.lt _ rfl).2
  have hsz1 := hb1.size
  go_wp2_with (first | (at_make; go_must (refine wpList_buf_make rfl _ _ rfl _ (p.size + E.length) rfl rfl (by omega) (by omega) ?_); intro w2 hB2) | (at_builtin; refine wpList_buf_str rfl (.tmp 47) (.tmp 48) rfl rfl hB2 p rfl (by simp; omega) ?_; intro v3 w3 hB3) | (at_builtin; refine wpList_buf_bytes rfl (.tmp 50) (.tmp 51) rfl rfl hB3 E _ _ _ rfl rfl ?hcells (by simp; omega) ?_))
  case hcells =>
    intro j u hu
    have c1 := hown1.cells (g := _) rfl j u hu
    rw [← c1]
    exact (hB3.2.1).cell (by rw [Addr.add_lit]; exact hlt)
  intro v4 w4 hB4
  have hcv := fun o => (hB4.alloc o).conv
  rw [← HS.out] at hcv
  obtain ⟨g4, c4, hv4, hg4, _⟩ := hB4.shape
  rw [List.length_append, show p.data.toList.length = p.size by simp] at hv4
  subst hv4
  have hb4 : Below w'.heap.size w' w4 := hb1.trans (hB4.2.1.mono hsz1)
  have hsz4 := hb4.size
  clear hB4 hB3 hB2 hown1 hb1 HCE
  go_wp2_with fail
  refine Calls.mono (HCS.out _ _ (by simp) (by simp)) ?_
  rintro e w5 ⟨rfl, hcl, hfr, hb5⟩
  have hb6 : Below w'.heap.size w' w5 := (hb4.alloc hsz4 _).trans (hb5.mono hsz4)
  clear HCS hcv hb5 hb4
  go_wp2
  go_quiet (first | (go_at_call 14; exact Calls.quiet_of_same (HCN.out _)))
  go_wp2
  go_ret
  exact ⟨ret_true' (diff_true' l m (by omega)), below_drewN hb6 _⟩

end Go.Proofs.Qxb6001401a
