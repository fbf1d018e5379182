/- The walks of the two laws. -/
import Derived.Test.Qxb6001438aUnesc
set_option linter.unusedSimpArgs false
set_option linter.unusedVariables false
namespace Go.Proofs.Qxb6001438a
open Go.ChangeShapes Go.WideShapes Go.ChangeAt Go.RowKit

theorem zesc_any (s : ByteArray) (w : World) (hs : s.size ≤ 1048576) :
    Calls Try.prog 8 #[.string s] w fun e w' => e = .returned (.string ⟨(Qx438.esc s.data.toList).toArray⟩) ∧ Below w.heap.size w w' := by
  have C : Hid _ := esc_any s w hs
  go_enter Try.func8, Try.ntmps8
  go_wp2_with fail
  refine Calls.mono C.out ?_
  rintro e w' ⟨rfl, hb⟩
  go_wp2
  go_ret
  exact ⟨rfl, hb⟩

theorem bytesA_any (s : ByteArray) (w : World) (hs : s.size ≤ maxLen) :
    Calls Try.prog 6 #[.string s] w fun e w' => e = .returned (.bool (decide (s.size ≤ 1048576))) ∧ w' = w := by
  unfold maxLen at hs
  by_cases h : s.size ≤ 1048576
  · go_enter Try.func6, Try.ntmps6
    go_wp2
    go_ret
    exact ⟨ret_bool (decide_eq_true h).symm, rfl⟩
  · go_enter Try.func6, Try.ntmps6
    go_wp2
    go_ret
    exact ⟨ret_bool (decide_eq_false h).symm, rfl⟩

theorem bytesB_any (s : ByteArray) (w : World) (hs : s.size ≤ maxLen) :
    Calls Try.prog 9 #[.string s] w fun e w' => e = .returned (.bool (decide (s.size ≤ 1048576))) ∧ w' = w := by
  unfold maxLen at hs
  by_cases h : s.size ≤ 1048576
  · go_enter Try.func9, Try.ntmps9
    go_wp2
    go_ret
    exact ⟨ret_bool (decide_eq_true h).symm, rfl⟩
  · go_enter Try.func9, Try.ntmps9
    go_wp2
    go_ret
    exact ⟨ret_bool (decide_eq_false h).symm, rfl⟩

theorem lawA_any (s : ByteArray) (w : World) (hs : s.size ≤ maxLen) :
    Calls Try.prog 3 #[.string s] w fun e w' => e = .returned (.bool true) ∧ Below w.heap.size w w' := by
  have B : Hid _ := bytesA_any s w hs
  by_cases h : s.size ≤ 1048576
  · have hd : decide (s.size ≤ 1048576) = true := decide_eq_true h
    have C : Hid _ := zesc_any s w h
    have hel := Qx438.esc_length s.data.toList
    have hbl := Qx438.bad_le s.data.toList
    have hsl : s.data.toList.length = s.size := by simp
    obtain ⟨E, hE⟩ : ∃ E : ByteArray, E = ⟨(Qx438.esc s.data.toList).toArray⟩ := ⟨_, rfl⟩
    have hEd : E.data.toList = Qx438.esc s.data.toList := by rw [hE]
    have hEs : E.size ≤ 4194304 := by
      have : E.size = (Qx438.esc s.data.toList).length := by rw [← hEd]; simp
      omega
    have D : Hid (∀ w1, _) := fun w1 : World => unesc_any E s.data.toList w1 hEd hEs
    rw [← hE] at C
    clear hel hbl hsl hE hEd hEs
    go_enter Try.func3, Try.ntmps3
    go_wp2_with (go_at_call 6; refine Calls.mono B.out ?_; rintro e w' ⟨rfl, hw⟩; have hw2 := hw.symm; subst hw2)
    refine Calls.mono C.out ?_
    rintro e w1 ⟨rfl, hb1⟩
    go_wp2_with fail
    refine Calls.mono (D.out _) ?_
    rintro e w2 ⟨rfl, hb2⟩
    have hb3 : Below w.heap.size w w2 := hb1.trans (hb2.mono hb1.size)
    go_wp2
    go_ret
    exact ⟨by simp, hb3⟩
  · have hd : decide (s.size ≤ 1048576) = false := decide_eq_false h
    go_enter Try.func3, Try.ntmps3
    go_wp2_with (go_at_call 6; refine Calls.mono B.out ?_; rintro e w' ⟨rfl, hw⟩; have hw2 := hw.symm; subst hw2)
    go_ret
    exact ⟨rfl, Below.refl _ _⟩

theorem bad_zero (s : ByteArray) (h : ∀ k (hk : k < s.size), Qx438.unres (s[k]'hk) = true) : Qx438.bad s.data.toList = 0 := by
  unfold Qx438.bad
  rw [List.length_eq_zero_iff, List.filter_eq_nil_iff]
  intro c hc
  obtain ⟨k, hk, e⟩ := List.mem_iff_getElem.1 hc
  have := h k (by simpa using hk)
  have e2 : s[k]'(by simpa using hk) = c := e
  rw [e2] at this
  simp [this]

theorem bad_pos (s : ByteArray) (k : Nat) (hk : k < s.size) (h : Qx438.unres (s[k]'hk) = false) : 0 < Qx438.bad s.data.toList := by
  unfold Qx438.bad
  have hm : s[k]'hk ∈ s.data.toList.filter fun c => !Qx438.unres c := by
    rw [List.mem_filter]
    refine ⟨?_, by rw [h]; rfl⟩
    have : s.data.toList[k]? = some (s[k]'hk) := by rw [List.getElem?_eq_getElem (by simpa using hk)]; rfl
    exact List.mem_of_getElem? this
  exact List.length_pos_of_mem hm

set_option maxHeartbeats 1000000 in
theorem lawB_any (s : ByteArray) (w : World) (hs : s.size ≤ maxLen) :
    Calls Try.prog 4 #[.string s] w fun e w' => e = .returned (.bool true) ∧ Below w.heap.size w w' := by
  have B : Hid _ := bytesB_any s w hs
  by_cases h : s.size ≤ 1048576
  · have hd : decide (s.size ≤ 1048576) = true := decide_eq_true h
    have C : Hid _ := zesc_any s w h
    have hel := Qx438.esc_length s.data.toList
    have hbl := Qx438.bad_le s.data.toList
    have hsl : s.data.toList.length = s.size := by simp
    obtain ⟨E, hE⟩ : ∃ E : ByteArray, E = ⟨(Qx438.esc s.data.toList).toArray⟩ := ⟨_, rfl⟩
    have hEd : E.data.toList = Qx438.esc s.data.toList := by rw [hE]
    have hEs : E.size = (Qx438.esc s.data.toList).length := by rw [← hEd]; simp
    have HES : Hid (E.size = s.size + 2 * Qx438.bad s.data.toList) := by show E.size = _; omega
    have hE1 : s.size ≤ E.size := by omega
    have hE2 : E.size ≤ 3 * s.size := by omega
    have HED : Hid _ := hEd
    rw [← hE] at C
    clear hel hbl hsl hE hEd hEs
    go_enter Try.func4, Try.ntmps4
    go_wp2_with (go_at_call 9; refine Calls.mono B.out ?_; rintro e w' ⟨rfl, hw⟩; have hw2 := hw.symm; subst hw2)
    refine Calls.mono C.out ?_
    rintro e w1 ⟨rfl, hb1⟩
    clear B C
    go_wp2
    go_loop [4, 5] (fun b i => ∃ k : Nat, k ≤ s.size ∧ i = .int .i64 k ∧ b = .bool true ∧ ∀ j (hj : j < s.size), j < k → Qx438.unres (s[j]'hj) = true) (fun _ i => s.size - (intOf i).toNat)
    case atStart => exact ⟨0, Nat.zero_le _, rfl, rfl, fun j _ hj => by omega⟩
    case round =>
      obtain ⟨k, hk, rfl, rfl, hall⟩ := hrel
      have HA : Hid _ := hall
      clear hall
      by_cases hlt : k < s.size
      · by_cases hu : Qx438.unres s[k] = true
        · go_wp2_with (go_at_call 10; refine (set_any _ _).mono ?_; rintro e w' ⟨rfl, hw⟩; have hw2 := hw.symm; subst hw2)
          go_round
          case rel =>
            refine ⟨k + 1, by omega, by go_num, rfl, fun j hj hjk => ?_⟩
            by_cases e : j = k
            · subst e; exact hu
            · exact HA.out j hj (by omega)
          case measure => simp [intOf]; omega
        · simp only [Bool.not_eq_true] at hu
          have hbp := bad_pos s k hlt hu
          have hsz : ((E.size : Int) == (s.size : Int)) = false := by rw [beq_eq_false_iff_ne]; have := HES.out; omega
          have heq : (E.toList == s.toList) = false := by
            rw [beq_eq_false_iff_ne, ByteArray.toList_eq, ByteArray.toList_eq]
            intro e
            have := congrArg List.length e
            simp at this
            have := HES.out
            omega
          clear hbp
          go_wp2_with (go_at_call 10; refine (set_any _ _).mono ?_; rintro e w' ⟨rfl, hw⟩; have hw2 := hw.symm; subst hw2)
          go_ret
          exact ⟨rfl, hb1⟩
      · have hz := bad_zero s (fun j hj => HA.out j hj (by omega))
        have hEq : E = s := by
          apply bytes_inj
          rw [HED.out, Qx438.esc_fixed _ hz]
        clear hz HES HED
        subst hEq
        go_wp2
        go_ret
        exact ⟨rfl, hb1⟩
  · have hd : decide (s.size ≤ 1048576) = false := decide_eq_false h
    go_enter Try.func4, Try.ntmps4
    go_wp2_with (go_at_call 9; refine Calls.mono B.out ?_; rintro e w' ⟨rfl, hw⟩; have hw2 := hw.symm; subst hw2)
    go_ret
    exact ⟨rfl, Below.refl _ _⟩

end Go.Proofs.Qxb6001438a
