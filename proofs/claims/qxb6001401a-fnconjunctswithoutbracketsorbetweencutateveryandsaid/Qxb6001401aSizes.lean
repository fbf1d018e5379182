/- The sizes of the input: the bound that every law lays ahead. -/
import Derived.Test.Qxb6001401aToks
set_option linter.unusedSimpArgs false
set_option linter.unusedVariables false
namespace Go.Proofs.Qxb6001401a
open Go.ChangeShapes Go.WideShapes Go.ChangeAt Go.RowKit

def StrSl (w : World) (ao : Option Addr) (ss : List ByteArray) : Prop :=
  ∀ i s, ss[i]? = some s → ∃ b o, ao = some ⟨b, o, none⟩ ∧ w.cell? ⟨b, o + i, none⟩ = some (.string s)
def IntSl (w : World) (ao : Option Addr) (zs : List Int) : Prop :=
  ∀ i z, zs[i]? = some z → ∃ b o, ao = some ⟨b, o, none⟩ ∧ w.cell? ⟨b, o + i, none⟩ = some (.int .i64 z)

/-- the sum of the sizes -/
def tot (ss : List ByteArray) : Nat := (ss.map ByteArray.size).sum

theorem tot_snoc (ss : List ByteArray) (k : Nat) (s : ByteArray) (h : ss[k]? = some s) : tot (ss.take (k + 1)) = tot (ss.take k) + s.size := by
  unfold tot
  rw [List.take_add_one, h]
  simp

theorem tot_le (ss : List ByteArray) (k : Nat) : tot (ss.take k) ≤ tot ss := by
  have : tot ss = tot (ss.take k) + tot (ss.drop k) := by
    unfold tot
    rw [← List.sum_append, ← List.map_append, List.take_append_drop]
  omega

theorem tot_all (ss : List ByteArray) (k : Nat) (h : ss.length ≤ k) : tot (ss.take k) = tot ss := by rw [List.take_of_length_le h]

theorem bytesD_any (zs : List Int) (ss : List ByteArray) (ka ta : Option Addr) (kl tl kc tc : Nat) (w : World) (htl : ss.length = tl) (hk1 : kl ≤ maxLen) (hk2 : tl ≤ maxLen) (ht : StrSl w ta ss) :
    Calls Try.prog 18 #[.slice ka kl kc, .slice ta tl tc] w fun e w' => e = .returned (.bool (decide (kl + tl + tot ss ≤ 1048576))) ∧ w' = w := by
  unfold maxLen at hk1 hk2
  by_cases h1 : 1048576 < kl
  · go_enter Try.func18, Try.ntmps18
    go_wp2
    go_ret
    exact ⟨ret_bool (decide_eq_false (by omega)).symm, rfl⟩
  by_cases h2 : 1048576 < tl
  · go_enter Try.func18, Try.ntmps18
    go_wp2
    go_ret
    exact ⟨ret_bool (decide_eq_false (by omega)).symm, rfl⟩
  by_cases h3 : 1048576 < kl + tl
  · go_enter Try.func18, Try.ntmps18
    go_wp2
    go_ret
    exact ⟨ret_bool (decide_eq_false (by omega)).symm, rfl⟩
  have HT : Hid _ := htl
  clear htl
  go_enter Try.func18, Try.ntmps18
  go_wp2
  go_loop [5, 6] (fun n i => ∃ k : Nat, k ≤ tl ∧ i = .int .i64 k ∧ n = .int .i64 (kl + tl + tot (ss.take k) : Nat) ∧ kl + tl + tot (ss.take k) ≤ 1048576) (fun _ i => tl - (intOf i).toNat)
  case atStart => exact ⟨0, Nat.zero_le _, rfl, by simp [tot], by simp [tot]; omega⟩
  case round =>
    obtain ⟨k, hk, rfl, rfl, hm⟩ := hrel
    by_cases hlt : k < tl
    · obtain ⟨s, hs⟩ : ∃ s, ss[k]? = some s := ⟨_, List.getElem?_eq_getElem (by rw [HT.out]; exact hlt)⟩
      obtain ⟨b, o, rfl, hc⟩ := ht k s hs
      have hsn : Hid _ := tot_snoc ss k s hs
      have hle := tot_le ss (k + 1)
      rw [hsn.out] at hle
      clear ht hs
      generalize hT : tot (ss.take k) = T at *
      have HT2 : Hid _ := hT
      clear hT
      by_cases h4 : 1048576 < s.size
      · go_wp2
        go_ret
        exact ⟨ret_bool (decide_eq_false (by omega)).symm, rfl⟩
      · by_cases h5 : 1048576 < kl + tl + T + s.size
        · go_wp2
          go_ret
          exact ⟨ret_bool (decide_eq_false (by omega)).symm, rfl⟩
        · go_wp2
          go_round
          case rel => exact ⟨k + 1, by omega, by go_num, by rw [hsn.out]; go_num, by rw [hsn.out]; omega⟩
          case measure => simp [intOf]; omega
    · have HA : Hid _ := tot_all ss k (by rw [HT.out]; omega)
      rw [HA.out] at hm
      go_wp2
      go_ret
      exact ⟨rfl, rfl⟩

theorem bytesE_any (zs : List Int) (ss : List ByteArray) (ka ta : Option Addr) (kl tl kc tc : Nat) (w : World) (htl : ss.length = tl) (hk1 : kl ≤ maxLen) (hk2 : tl ≤ maxLen) (ht : StrSl w ta ss) :
    Calls Try.prog 24 #[.slice ka kl kc, .slice ta tl tc] w fun e w' => e = .returned (.bool (decide (kl + tl + tot ss ≤ 1048576))) ∧ w' = w := by
  unfold maxLen at hk1 hk2
  by_cases h1 : 1048576 < kl
  · go_enter Try.func24, Try.ntmps24
    go_wp2
    go_ret
    exact ⟨ret_bool (decide_eq_false (by omega)).symm, rfl⟩
  by_cases h2 : 1048576 < tl
  · go_enter Try.func24, Try.ntmps24
    go_wp2
    go_ret
    exact ⟨ret_bool (decide_eq_false (by omega)).symm, rfl⟩
  by_cases h3 : 1048576 < kl + tl
  · go_enter Try.func24, Try.ntmps24
    go_wp2
    go_ret
    exact ⟨ret_bool (decide_eq_false (by omega)).symm, rfl⟩
  have HT : Hid _ := htl
  clear htl
  go_enter Try.func24, Try.ntmps24
  go_wp2
  go_loop [5, 6] (fun n i => ∃ k : Nat, k ≤ tl ∧ i = .int .i64 k ∧ n = .int .i64 (kl + tl + tot (ss.take k) : Nat) ∧ kl + tl + tot (ss.take k) ≤ 1048576) (fun _ i => tl - (intOf i).toNat)
  case atStart => exact ⟨0, Nat.zero_le _, rfl, by simp [tot], by simp [tot]; omega⟩
  case round =>
    obtain ⟨k, hk, rfl, rfl, hm⟩ := hrel
    by_cases hlt : k < tl
    · obtain ⟨s, hs⟩ : ∃ s, ss[k]? = some s := ⟨_, List.getElem?_eq_getElem (by rw [HT.out]; exact hlt)⟩
      obtain ⟨b, o, rfl, hc⟩ := ht k s hs
      have hsn : Hid _ := tot_snoc ss k s hs
      have hle := tot_le ss (k + 1)
      rw [hsn.out] at hle
      clear ht hs
      generalize hT : tot (ss.take k) = T at *
      have HT2 : Hid _ := hT
      clear hT
      by_cases h4 : 1048576 < s.size
      · go_wp2
        go_ret
        exact ⟨ret_bool (decide_eq_false (by omega)).symm, rfl⟩
      · by_cases h5 : 1048576 < kl + tl + T + s.size
        · go_wp2
          go_ret
          exact ⟨ret_bool (decide_eq_false (by omega)).symm, rfl⟩
        · go_wp2
          go_round
          case rel => exact ⟨k + 1, by omega, by go_num, by rw [hsn.out]; go_num, by rw [hsn.out]; omega⟩
          case measure => simp [intOf]; omega
    · have HA : Hid _ := tot_all ss k (by rw [HT.out]; omega)
      rw [HA.out] at hm
      go_wp2
      go_ret
      exact ⟨rfl, rfl⟩

theorem bytesF_any (zs : List Int) (ss : List ByteArray) (ka ta : Option Addr) (kl tl kc tc : Nat) (w : World) (htl : ss.length = tl) (hk1 : kl ≤ maxLen) (hk2 : tl ≤ maxLen) (ht : StrSl w ta ss) :
    Calls Try.prog 28 #[.slice ka kl kc, .slice ta tl tc] w fun e w' => e = .returned (.bool (decide (kl + tl + tot ss ≤ 1048576))) ∧ w' = w := by
  unfold maxLen at hk1 hk2
  by_cases h1 : 1048576 < kl
  · go_enter Try.func28, Try.ntmps28
    go_wp2
    go_ret
    exact ⟨ret_bool (decide_eq_false (by omega)).symm, rfl⟩
  by_cases h2 : 1048576 < tl
  · go_enter Try.func28, Try.ntmps28
    go_wp2
    go_ret
    exact ⟨ret_bool (decide_eq_false (by omega)).symm, rfl⟩
  by_cases h3 : 1048576 < kl + tl
  · go_enter Try.func28, Try.ntmps28
    go_wp2
    go_ret
    exact ⟨ret_bool (decide_eq_false (by omega)).symm, rfl⟩
  have HT : Hid _ := htl
  clear htl
  go_enter Try.func28, Try.ntmps28
  go_wp2
  go_loop [5, 6] (fun n i => ∃ k : Nat, k ≤ tl ∧ i = .int .i64 k ∧ n = .int .i64 (kl + tl + tot (ss.take k) : Nat) ∧ kl + tl + tot (ss.take k) ≤ 1048576) (fun _ i => tl - (intOf i).toNat)
  case atStart => exact ⟨0, Nat.zero_le _, rfl, by simp [tot], by simp [tot]; omega⟩
  case round =>
    obtain ⟨k, hk, rfl, rfl, hm⟩ := hrel
    by_cases hlt : k < tl
    · obtain ⟨s, hs⟩ : ∃ s, ss[k]? = some s := ⟨_, List.getElem?_eq_getElem (by rw [HT.out]; exact hlt)⟩
      obtain ⟨b, o, rfl, hc⟩ := ht k s hs
      have hsn : Hid _ := tot_snoc ss k s hs
      have hle := tot_le ss (k + 1)
      rw [hsn.out] at hle
      clear ht hs
      generalize hT : tot (ss.take k) = T at *
      have HT2 : Hid _ := hT
      clear hT
      by_cases h4 : 1048576 < s.size
      · go_wp2
        go_ret
        exact ⟨ret_bool (decide_eq_false (by omega)).symm, rfl⟩
      · by_cases h5 : 1048576 < kl + tl + T + s.size
        · go_wp2
          go_ret
          exact ⟨ret_bool (decide_eq_false (by omega)).symm, rfl⟩
        · go_wp2
          go_round
          case rel => exact ⟨k + 1, by omega, by go_num, by rw [hsn.out]; go_num, by rw [hsn.out]; omega⟩
          case measure => simp [intOf]; omega
    · have HA : Hid _ := tot_all ss k (by rw [HT.out]; omega)
      rw [HA.out] at hm
      go_wp2
      go_ret
      exact ⟨rfl, rfl⟩

/-- zzTokBytes -/
theorem tokBytes_any (ss : List ByteArray) (ka ta : Option Addr) (kl tl kc tc : Nat) (w : World) (htl : ss.length = tl) (hm : kl + tl + tot ss ≤ 1048576) (ht : StrSl w ta ss) :
    Calls Try.prog 19 #[.slice ka kl kc, .slice ta tl tc] w fun e w' => e = .returned (.int .i64 (8 * kl + 16 * tl + tot ss : Nat)) ∧ w' = w := by
  have HT : Hid _ := htl
  clear htl
  go_enter Try.func19, Try.ntmps19
  go_wp2
  go_loop [5, 6] (fun n i => ∃ k : Nat, k ≤ tl ∧ i = .int .i64 k ∧ n = .int .i64 (8 * kl + 16 * tl + tot (ss.take k) : Nat)) (fun _ i => tl - (intOf i).toNat)
  case atStart => exact ⟨0, Nat.zero_le _, rfl, by simp [tot]⟩
  case round =>
    obtain ⟨k, hk, rfl, rfl⟩ := hrel
    by_cases hlt : k < tl
    · obtain ⟨s, hs⟩ : ∃ s, ss[k]? = some s := ⟨_, List.getElem?_eq_getElem (by rw [HT.out]; exact hlt)⟩
      obtain ⟨b, o, rfl, hc⟩ := ht k s hs
      have hsn : Hid _ := tot_snoc ss k s hs
      have hle := tot_le ss (k + 1)
      rw [hsn.out] at hle
      clear ht hs
      generalize hT : tot (ss.take k) = T at *
      have HT2 : Hid _ := hT
      clear hT
      go_wp2
      go_round
      case rel => exact ⟨k + 1, by omega, by go_num, by rw [hsn.out]; go_num⟩
      case measure => simp [intOf]; omega
    · have HA : Hid _ := tot_all ss k (by rw [HT.out]; omega)
      go_wp2
      go_ret
      exact ⟨by rw [HA.out]; rfl, rfl⟩

end Go.Proofs.Qxb6001401a
