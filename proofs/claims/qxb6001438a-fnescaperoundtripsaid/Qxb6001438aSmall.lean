/- The walks of unreserved, inUnreservedSet, upperHexVal. -/
import Derived.Test.Qxb6001438aRows
import Derived.Test.Qxb6001438aPlain
import Derived.WalkKit
import Derived.ProofKit
set_option linter.unusedSimpArgs false
set_option linter.unusedVariables false
namespace Go.Proofs.Qxb6001438a
open Go.ChangeShapes Go.WideShapes Go.ChangeAt Go.RowKit

theorem ret_bool {a b : Bool} (h : a = b) : Ending.returned (.bool a) = .returned (.bool b) := by rw [h]

set_option maxHeartbeats 1000000 in
theorem unres_any (c : UInt8) (w : World) :
    Calls Try.prog 14 #[.int .u8 c.toNat] w fun e w' => e = .returned (.bool (Qx438.unres c)) ∧ w' = w := by
  go_enter Try.func14, Try.ntmps14
  go_wp2
  all_goals
    go_ret
    exact ⟨ret_bool (by unfold Qx438.unres Qx438.unresN; rw [Bool.eq_iff_iff]; simp; omega), rfl⟩

def tableB : ByteArray := ⟨Qx438.table.toArray⟩
theorem tableB_size : tableB.size = 66 := rfl
theorem tableB_at (k : Nat) (h : k < tableB.size) : Qx438.table[k]? = some (tableB[k]'h) := by
  rw [List.getElem?_eq_getElem (by rw [tableB_size] at h; exact h)]
  rfl

theorem byte_eq (c d : UInt8) : (((c.toNat : Int) == (d.toNat : Int)) = true) ↔ c = d := by
  rw [← UInt8.toNat_inj, beq_iff_eq]; omega
theorem byte_ne (c d : UInt8) : (((c.toNat : Int) == (d.toNat : Int)) = false) ↔ c ≠ d := by
  rw [Ne, ← UInt8.toNat_inj, beq_eq_false_iff_ne]; omega

set_option maxHeartbeats 1000000 in
theorem set_any (c : UInt8) (w : World) :
    Calls Try.prog 10 #[.int .u8 c.toNat] w fun e w' => e = .returned (.bool (Qx438.unres c)) ∧ w' = w := by
  go_enter Try.func10, Try.ntmps10
  go_wp2
  go_loop [3] (fun i => ∃ k : Nat, k ≤ 66 ∧ i = .int .i64 k ∧ ∀ j d, j < k → Qx438.table[j]? = some d → d ≠ c) (fun i => 66 - (intOf i).toNat)
  case atStart => exact ⟨0, by omega, rfl, fun j d hj => by omega⟩
  case round =>
    obtain ⟨k, hk, rfl, hall⟩ := hrel
    have HA : Hid _ := hall
    clear hall
    by_cases hlt : k < 66
    · have hB : k < tableB.size := by rw [tableB_size]; exact hlt
      have HAT : Hid _ := tableB_at k hB
      go_wp2
      · have hf : (((tableB[k]'hB).toNat : Int) == (c.toNat : Int)) = true := by assumption
        have := HAT.out
        rw [(byte_eq _ _).1 hf] at this
        have HU : Hid _ := Qx438.unres_of_at this
        go_ret
        exact ⟨ret_bool HU.out.symm, rfl⟩
      · have hf : (((tableB[k]'hB).toNat : Int) == (c.toNat : Int)) = false := by assumption
        go_round
        case rel =>
          refine ⟨k + 1, by omega, by go_num, fun j d hj hd => ?_⟩
          by_cases e : j = k
          · subst e
            have := HAT.out
            rw [hd] at this
            cases this
            exact (byte_ne _ _).1 hf
          · exact HA.out j d (by omega) hd
        case measure => simp [intOf]; omega
    · have HU : Hid _ := Qx438.unres_none (c := c) (fun j d hd => HA.out j d (by have := (List.getElem?_eq_some_iff.1 hd).1; rw [Qx438.table_size] at this; omega) hd)
      go_wp2
      go_ret
      exact ⟨ret_bool HU.out.symm, rfl⟩

theorem ret_pair {k : IntKind} {a b : Int} {x y : Bool} (h : a = b) (h' : x = y) : Ending.returned (.tuple #[.int k a, .bool x]) = .returned (.tuple #[.int k b, .bool y]) := by rw [h, h']

/-- upperHexVal at a digit that the escape wrote -/
theorem hex_any (n : Nat) (h : n < 16) (w : World) :
    Calls Try.prog 12 #[.int .u8 (Qx438.hexd n).toNat] w fun e w' => e = .returned (.tuple #[.int .i64 n, .bool true]) ∧ w' = w := by
  have hv := Qx438.hexd_val n h
  by_cases h10 : n < 10
  · rw [if_pos h10] at hv
    have e : ((Qx438.hexd n).toNat : Int) = 48 + n := by omega
    rw [e]
    clear e hv
    go_enter Try.func12, Try.ntmps12
    go_wp2
    go_ret2
    exact ⟨ret_pair (by omega) rfl, rfl⟩
  · rw [if_neg h10] at hv
    have e : ((Qx438.hexd n).toNat : Int) = 55 + n := by omega
    rw [e]
    clear e hv
    go_enter Try.func12, Try.ntmps12
    go_wp2
    go_ret2
    exact ⟨ret_pair (by omega) rfl, rfl⟩

end Go.Proofs.Qxb6001438a
