/- The walks of the newline count. -/
import Derived.Test.Qxb6001401aRows
import Derived.Test.Qxb6001401aPlain
import Derived.WalkKit
import Derived.ProofKit
set_option linter.unusedSimpArgs false
set_option linter.unusedVariables false
namespace Go.Proofs.Qxb6001401a
open Go.ChangeShapes Go.WideShapes Go.ChangeAt Go.RowKit

theorem ret_int {k : IntKind} {a b : Int} (h : a = b) : Ending.returned (.int k a) = .returned (.int k b) := by rw [h]

theorem take_snoc (s : ByteArray) (k : Nat) (h : k < s.size) : s.data.toList.take (k + 1) = s.data.toList.take k ++ [s[k]] := by
  rw [List.take_succ_eq_append_getElem (by simpa using h)]; rfl

theorem nl_snoc (l : List UInt8) (c : UInt8) : (Qx401.nl (l ++ [c]) : Int) = Qx401.nl l + if (c.toNat : Int) = 10 then 1 else 0 := by
  unfold Qx401.nl
  have e : (c = 10) ↔ ((c.toNat : Int) = 10) := by
    rw [← UInt8.toNat_inj]; simp; omega
  by_cases h : c = 10
  · rw [if_pos (e.1 h)]; subst h; simp
  · rw [if_neg (fun x => h (e.2 x))]; simp [List.count_append, List.count_cons, h]

theorem nl_le (l : List UInt8) : Qx401.nl l ≤ l.length := List.count_le_length

/-- zzCountNL -/
theorem nl_any (s : ByteArray) (w : World) (hs : s.size ≤ maxLen) :
    Calls Try.prog 14 #[.string s] w fun e w' => e = .returned (.int .i64 (Qx401.nl s.data.toList)) ∧ w' = w := by
  unfold maxLen at hs
  go_enter Try.func14, Try.ntmps14
  go_wp2
  go_loop [3, 4] (fun n i => ∃ k : Nat, k ≤ s.size ∧ i = .int .i64 k ∧ n = .int .i64 (Qx401.nl (s.data.toList.take k))) (fun _ i => s.size - (intOf i).toNat)
  case atStart => exact ⟨0, Nat.zero_le _, rfl, rfl⟩
  case round =>
    obtain ⟨k, hk, rfl, rfl⟩ := hrel
    have hd := nl_le (s.data.toList.take k)
    have hl : (s.data.toList.take k).length ≤ k := List.length_take_le _ _
    by_cases hlt : k < s.size
    · have hsn := nl_snoc (s.data.toList.take k) s[k]
      have hts := take_snoc s k hlt
      have HS : Hid ((Qx401.nl (s.data.toList.take (k + 1)) : Int) = Qx401.nl (s.data.toList.take k) + if (s[k].toNat : Int) = 10 then 1 else 0) := by rw [hts]; exact hsn
      clear hsn hts
      by_cases hc : ((s[k].toNat : Int) == 10) = true
      · go_wp2
        go_round
        case rel => exact ⟨k + 1, by omega, by go_num, by rw [HS.out, if_pos (by simpa using hc)]⟩
        case measure => simp [intOf]; omega
      · simp only [Bool.not_eq_true] at hc
        go_wp2
        go_round
        case rel => exact ⟨k + 1, by omega, by go_num, by rw [HS.out, if_neg (by simpa using hc)]; go_num⟩
        case measure => simp [intOf]; omega
    · go_wp2
      go_ret
      exact ⟨ret_int (by rw [List.take_of_length_le (by simp; omega)]), rfl⟩

end Go.Proofs.Qxb6001401a
