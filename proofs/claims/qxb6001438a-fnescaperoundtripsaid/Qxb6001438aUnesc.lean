/- The walk of strictUnescape over what escape wrote. -/
import Derived.Test.Qxb6001438aEsc
set_option linter.unusedSimpArgs false
set_option linter.unusedVariables false
namespace Go.Proofs.Qxb6001438a
open Go.ChangeShapes Go.WideShapes Go.ChangeAt Go.RowKit

theorem esc_split (l : List UInt8) (j : Nat) (h : j < l.length) : Qx438.esc l = Qx438.esc (l.take j) ++ (Qx438.esc1 l[j] ++ Qx438.esc (l.drop (j + 1))) := by
  conv => lhs; rw [← List.take_append_drop j l, Qx438.esc_append, List.drop_eq_getElem_cons h]
  rfl

theorem esc_take (l : List UInt8) (j : Nat) (h : j < l.length) : Qx438.esc (l.take (j + 1)) = Qx438.esc (l.take j) ++ Qx438.esc1 l[j] := by
  rw [List.take_succ_eq_append_getElem h, Qx438.esc_append]
  simp [Qx438.esc]

theorem esc1_pos (c : UInt8) : 1 ≤ (Qx438.esc1 c).length := by rw [Qx438.esc1_length]; split <;> omega

/-- a byte of what was written -/
theorem at_esc (E : ByteArray) (l : List UInt8) (hE : E.data.toList = Qx438.esc l) (j : Nat) (h : j < l.length) (i : Nat) (hi : (Qx438.esc (l.take j)).length = i) (m : Nat) (d : UInt8) (hd : (Qx438.esc1 l[j])[m]? = some d) :
    ∃ hm : i + m < E.size, E[i + m]'hm = d := by
  have hlt : m < (Qx438.esc1 l[j]).length := (List.getElem?_eq_some_iff.1 hd).1
  have hsz : E.size = (Qx438.esc l).length := by rw [← hE]; simp
  have hm : i + m < E.size := by
    rw [hsz, esc_split l j h, List.length_append, List.length_append, hi]
    omega
  refine ⟨hm, ?_⟩
  have e1 : E.data.toList[i + m]? = some (E[i + m]'hm) := by
    rw [List.getElem?_eq_getElem (by simpa using hm)]; rfl
  rw [hE, esc_split l j h, List.getElem?_append_right (by omega), hi, Nat.add_sub_cancel_left, List.getElem?_append_left hlt, hd] at e1
  exact (Option.some.inj e1).symm

theorem byte37 (c : UInt8) (h : Qx438.unres c = true) : ((c.toNat : Int) == 37) = false := by
  rw [beq_eq_false_iff_ne]
  intro e
  have : c = 37 := by rw [← UInt8.toNat_inj]; simp; omega
  rw [this, Qx438.percent_no] at h
  cases h

set_option maxHeartbeats 2000000 in
theorem unesc_any (E : ByteArray) (l : List UInt8) (w : World) (hE : E.data.toList = Qx438.esc l) (hs : E.size ≤ 4194304) :
    Calls Try.prog 7 #[.string E] w fun e w' => e = .returned (.tuple #[.string ⟨l.toArray⟩, .bool true]) ∧ Below w.heap.size w w' := by
  have HE : Hid _ := hE
  have hsz : E.size = (Qx438.esc l).length := by rw [← hE]; simp
  have HSZ : Hid _ := hsz
  clear hE hsz
  go_enter Try.func7, Try.ntmps7
  go_wp2_with (at_make; refine wpList_buf_make rfl _ _ rfl _ E.size rfl rfl ?_ ?_ ?_)
  · rfl
  · omega
  intro w2 hB2
  go_wp2
  go_loopw [4, 5] (fun v i wr => ∃ j n : Nat, j ≤ l.length ∧ (Qx438.esc (l.take j)).length = n ∧ i = .int .i64 n ∧ Buf w w.heap.size v (l.take j) wr) (fun _ i _ => E.size - (intOf i).toNat)
  case atStart => exact ⟨0, 0, Nat.zero_le _, rfl, rfl, by rw [List.take_zero]; exact hB2⟩
  case round =>
    obtain ⟨j, n, hj, hn, rfl, hBj⟩ := hrel
    have HNN : Hid _ := hn
    clear hB2 hn
    by_cases hlt : j < l.length
    · have HT : Hid _ := esc_take l j hlt
      have HTT : Hid _ := List.take_succ_eq_append_getElem hlt
      have hl1 : (l.take j).length ≤ 4194304 := by
        have h1 : (l.take j).length ≤ (Qx438.esc (l.take j)).length := by rw [Qx438.esc_length]; omega
        have h2 : n < E.size := by
          rw [HSZ.out, esc_split l j hlt, List.length_append, HNN.out, List.length_append]
          have := esc1_pos l[j]
          omega
        rw [HNN.out] at h1
        omega
      by_cases hu : Qx438.unres l[j] = true
      · obtain ⟨h0, e0⟩ := at_esc E l HE.out j hlt n HNN.out 0 l[j] (by rw [Qx438.esc1, if_pos hu]; rfl)
        simp only [Nat.add_zero] at h0 e0
        have h37 := byte37 l[j] hu
        have HL : Hid _ := (show (Qx438.esc (l.take (j + 1))).length = n + 1 by rw [HT.out, List.length_append, HNN.out, Qx438.esc1_length, if_pos hu])
        generalize l[j] = c at *
        go_wp2_with (first | (go_at_call 10; refine (set_any _ _).mono ?_; rintro e w' ⟨rfl, hw⟩; have hw2 := hw.symm; subst hw2) | (at_builtin; refine wpList_buf_byte rfl (.tmp 67) (.tmp 69) rfl rfl hBj c rfl (by omega) ?_; intro v3 w3 hB3))
        go_roundw
        case rel => exact ⟨j + 1, n + 1, by omega, HL.out, by go_num, by rw [HTT.out]; exact hB3⟩
        case measure => simp [intOf]; omega
      · simp only [Bool.not_eq_true] at hu
        have esc3 : Qx438.esc1 l[j] = [37, Qx438.hexd (l[j].toNat / 16), Qx438.hexd (l[j].toNat % 16)] := by rw [Qx438.esc1, if_neg (by rw [hu]; simp)]
        obtain ⟨h0, e0⟩ := at_esc E l HE.out j hlt n HNN.out 0 37 (by rw [esc3]; rfl)
        obtain ⟨h1, e1⟩ := at_esc E l HE.out j hlt n HNN.out 1 (Qx438.hexd (l[j].toNat / 16)) (by rw [esc3]; rfl)
        obtain ⟨h2, e2⟩ := at_esc E l HE.out j hlt n HNN.out 2 (Qx438.hexd (l[j].toNat % 16)) (by rw [esc3]; rfl)
        simp only [Nat.add_zero] at h0 e0
        have HL : Hid _ := (show (Qx438.esc (l.take (j + 1))).length = n + 3 by rw [HT.out, List.length_append, HNN.out, esc3]; rfl)
        obtain ⟨a, ha⟩ : ∃ a, l[j].toNat / 16 = a := ⟨_, rfl⟩
        obtain ⟨b, hb⟩ : ∃ b, l[j].toNat % 16 = b := ⟨_, rfl⟩
        have ha16 : a < 16 := by have := l[j].toNat_lt; omega
        have hb16 : b < 16 := by omega
        have ev : (a : Int) * 16 + (b : Int) = (l[j].toNat : Int) := by omega
        rw [ha] at e1
        rw [hb] at e2
        clear esc3 ha hb
        generalize l[j] = c at *
        go_wp2_with fail
        refine (hex_any a ha16 _).mono ?_
        rintro e w' ⟨rfl, hw⟩
        have hw2 := hw.symm
        subst hw2
        go_wp2_with fail
        refine (hex_any b hb16 _).mono ?_
        rintro e w' ⟨rfl, hw⟩
        have hw2 := hw.symm
        subst hw2
        go_wp2_with (first | (go_at_call 10; refine (set_any c _).mono ?_; rintro e w' ⟨rfl, hw⟩; have hw2 := hw.symm; subst hw2) | (at_builtin; refine wpList_buf_byte rfl (.tmp 58) (.tmp 60) rfl rfl hBj c rfl (by omega) ?_; intro v3 w3 hB3))
        go_roundw
        case rel => exact ⟨j + 1, n + 3, by omega, HL.out, by go_num, by rw [HTT.out]; exact hB3⟩
        case measure => simp [intOf]; omega
    · obtain rfl : j = l.length := by omega
      have hnE : ¬ (n : Int) < (E.size : Int) := by
        have := HSZ.out
        have h2 := HNN.out
        rw [List.take_length] at h2
        omega
      rw [List.take_length] at hBj
      have hcv := hBj.conv
      have hbel := hBj.2.1
      go_wp2
      go_ret2
      exact ⟨rfl, hbel⟩

end Go.Proofs.Qxb6001438a
