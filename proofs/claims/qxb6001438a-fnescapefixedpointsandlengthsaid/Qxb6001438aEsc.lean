/- The walk of escape. -/
import Derived.Test.Qxb6001438aBuf
import Derived.Deep.RegionHeld3
import Derived.Deep.AppendLies
import Derived.Deep.RegionLaw
set_option linter.unusedSimpArgs false
set_option linter.unusedVariables false
namespace Go.Proofs.Qxb6001438a
open Go.ChangeShapes Go.WideShapes Go.ChangeAt Go.RowKit

theorem take_snoc (s : ByteArray) (k : Nat) (h : k < s.size) : s.data.toList.take (k + 1) = s.data.toList.take k ++ [s[k]] := by
  rw [List.take_succ_eq_append_getElem (by simpa using h)]; rfl

theorem bad_snoc (s : ByteArray) (k : Nat) (h : k < s.size) : Qx438.bad (s.data.toList.take (k + 1)) = Qx438.bad (s.data.toList.take k) + if Qx438.unres s[k] then 0 else 1 := by
  rw [take_snoc s k h, Qx438.bad_append]
  congr 1
  simp only [Qx438.bad, List.filter_cons, List.filter_nil]
  cases Qx438.unres s[k] <;> rfl

theorem esc_snoc (s : ByteArray) (k : Nat) (h : k < s.size) : Qx438.esc (s.data.toList.take (k + 1)) = Qx438.esc (s.data.toList.take k) ++ Qx438.esc1 s[k] := by
  rw [take_snoc s k h, Qx438.esc_append]
  simp [Qx438.esc]

def hexB : ByteArray := ⟨#[48, 49, 50, 51, 52, 53, 54, 55, 56, 57, 65, 66, 67, 68, 69, 70]⟩
theorem hexB_all : ∀ n : Fin 16, hexB[n.1]'n.2 = Qx438.hexd n.1 := by decide +kernel
theorem hexB_at (n : Nat) (h : n < 16) : hexB[n]'h = Qx438.hexd n := hexB_all ⟨n, h⟩

theorem and15 (c : UInt8) : bits BinOp.and IntKind.u8 (c.toNat : Int) 15 = ((c.toNat % 16 : Nat) : Int) := by
  have := c.toNat_lt
  rw [u8_and15 (x := (c.toNat : Int)) (by omega) (by omega)]
  omega

theorem three_new (w : World) (a b c : Value) (t : TypeId) : ∀ j u, ([a, b, c] : List Value)[j]? = some u → (w.alloc (.cells #[a, b, c] t)).cell? ((⟨w.heap.size, 0, none⟩ : Addr).add j) = some u := by
  intro j u hj
  match j, hj with
  | 0, hj => simp at hj; subst hj; simp [Addr.add]
  | 1, hj => simp at hj; subst hj; simp [Addr.add]
  | 2, hj => simp at hj; subst hj; simp [Addr.add]

theorem Buf.drew {w0 : World} {base : Nat} {v : Value} {l : List UInt8} {w : World} (h : Buf w0 base v l w) : Buf w0 base v l w.drew := ⟨h.1.drew, h.2.1.drew, h.2.2.1, h.2.2.2⟩

theorem bad_mono (s : ByteArray) (k : Nat) : Qx438.bad (s.data.toList.take k) ≤ k := Nat.le_trans (Qx438.bad_le _) (List.length_take_le _ _)

set_option maxHeartbeats 2000000 in
theorem esc_any (s : ByteArray) (w : World) (hs : s.size ≤ 1048576) :
    Calls Try.prog 13 #[.string s] w fun e w' => e = .returned (.string ⟨(Qx438.esc s.data.toList).toArray⟩) ∧ Below w.heap.size w w' := by
  go_enter Try.func13, Try.ntmps13
  go_wp2
  go_loop [3, 4] (fun n i => ∃ k : Nat, k ≤ s.size ∧ i = .int .i64 k ∧ n = .int .i64 (Qx438.bad (s.data.toList.take k))) (fun _ i => s.size - (intOf i).toNat)
  case atStart => exact ⟨0, Nat.zero_le _, rfl, rfl⟩
  case round =>
    obtain ⟨k, hk, rfl, rfl⟩ := hrel
    have hbm := bad_mono s k
    by_cases hlt : k < s.size
    · have HB : Hid _ := bad_snoc s k hlt
      by_cases hu : Qx438.unres s[k] = true
      · go_wp2_with (go_at_call 14; refine (unres_any _ _).mono ?_; rintro e w' ⟨rfl, hw⟩; have hw2 := hw.symm; subst hw2)
        go_round
        case rel => exact ⟨k + 1, by omega, by go_num, by rw [HB.out, if_pos hu]; go_num⟩
        case measure => simp [intOf]; omega
      · simp only [Bool.not_eq_true] at hu
        go_wp2_with (go_at_call 14; refine (unres_any _ _).mono ?_; rintro e w' ⟨rfl, hw⟩; have hw2 := hw.symm; subst hw2)
        go_round
        case rel => exact ⟨k + 1, by omega, by go_num, by rw [HB.out, if_neg (by rw [hu]; simp)]; go_num⟩
        case measure => simp [intOf]; omega
    · have e1 : s.data.toList.take k = s.data.toList := List.take_of_length_le (by simp; omega)
      rw [e1] at hbm ⊢
      clear e1
      by_cases hz : (((Qx438.bad s.data.toList : Nat) : Int) == 0) = true
      · have HF : Hid _ := Qx438.esc_fixed s.data.toList (by have := beq_iff_eq.1 hz; omega)
        go_wp2
        go_ret
        exact ⟨by rw [HF.out]; rfl, Below.refl _ _⟩
      · simp only [Bool.not_eq_true] at hz
        have hel := Qx438.esc_length s.data.toList
        have HEL : Hid _ := hel
        have hbl := Qx438.bad_le s.data.toList
        have hsl : s.data.toList.length = s.size := by simp
        rw [hsl] at hbl
        clear hel hsl HEL
        generalize Qx438.bad s.data.toList = nb at *
        go_wp2_with (at_make; refine wpList_buf_make rfl _ _ rfl _ (s.size + 2 * nb) rfl rfl ?_ ?_ ?_)
        · omega
        intro w2 hB2
        go_wp2
        go_loopw [5, 6] (fun v i wr => ∃ k : Nat, k ≤ s.size ∧ i = .int .i64 k ∧ Buf w w.heap.size v (Qx438.esc (s.data.toList.take k)) wr) (fun _ i _ => s.size - (intOf i).toNat)
        case atStart => exact ⟨0, Nat.zero_le _, rfl, by rw [List.take_zero]; exact hB2⟩
        case round =>
          obtain ⟨j, hj, rfl, hBj⟩ := hrel
          clear hB2
          have hjl : (Qx438.esc (s.data.toList.take j)).length ≤ 4194304 := by
            rw [Qx438.esc_length]
            have h1 := bad_mono s j
            have h2 : (s.data.toList.take j).length ≤ j := List.length_take_le _ _
            omega
          by_cases hlt2 : j < s.size
          · have HE : Hid _ := esc_snoc s j hlt2
            by_cases hu : Qx438.unres s[j] = true
            · go_wp2_with (first | (go_at_call 14; refine (unres_any _ _).mono ?_; rintro e w' ⟨rfl, hw⟩; have hw2 := hw.symm; subst hw2) | (at_builtin; refine wpList_buf_byte rfl (.tmp 41) (.tmp 43) rfl rfl hBj s[j] rfl (by omega) ?_; intro v3 w3 hB3))
              go_roundw
              case rel => exact ⟨j + 1, by omega, by go_num, by rw [HE.out, Qx438.esc1, if_pos hu]; exact hB3⟩
              case measure => simp [intOf]; omega
            · simp only [Bool.not_eq_true] at hu
              have h255 : (s[j].toNat : Int) ≤ 255 := by have := s[j].toNat_lt; omega
              go_wp2_with (go_at_call 14; refine (unres_any _ _).mono ?_; rintro e w' ⟨rfl, hw⟩; have hw2 := hw.symm; subst hw2)
              obtain ⟨a, ha⟩ : ∃ a, s[j].toNat / 16 = a := ⟨_, rfl⟩
              obtain ⟨b, hb⟩ : ∃ b, s[j].toNat % 16 = b := ⟨_, rfl⟩
              have ha16 : a < 16 := by have := s[j].toNat_lt; omega
              have hb16 : b < 16 := by omega
              have r1 : (s[j].toNat : Int) / 16 = (a : Int) := by omega
              have r2 : bits BinOp.and IntKind.u8 (s[j].toNat : Int) 15 = (b : Int) := by
                rw [and15, hb]
              have haI : (a : Int) < 16 := by omega
              have hbI : (b : Int) < 16 := by omega
              have HAB : Hid _ := And.intro ha hb
              obtain ⟨i0, hi, hz0, hz1, hz2⟩ := info_parts Try.info5
              have HO : Hid _ := hBj.1
              have hbs := hBj.2.2.1
              clear ha hb
              go_region_law (refine step_append_lies _ (by rfl) (.tmp 45) (.tmp 52) 28 (by rfl) w.heap.size 5 i0 (.int .u8 0) 1 1 Try.underlying28 hi hz0 hz1 hz2 rfl (by decide) u5 (Qx438.esc (s.data.toList.take j)).length (bcells (Qx438.esc (s.data.toList.take j))) (by rfl) (by exact (World.ownsRow.alloc HO.out _).drew) ⟨wr.heap.size, 0, none⟩ 3 3 [.int .u8 37, .int .u8 (hexB[a]'ha16).toNat, .int .u8 (hexB[b]'hb16).toNat] (by rfl) rfl (by exact three_new wr _ _ _ _) (fun u hu => by simp at hu; rcases hu with rfl | rfl | rfl <;> rfl) (by omega) (by unfold maxLen; omega) (by omega) (by simp; omega) (wr.heap.size + 1) (by simp) ?_; intro g cap w1 hown hgrow hat hlt)
              all_goals
                have hfin : Buf w w.heap.size (.slice (some ⟨g, 0, none⟩) ((Qx438.esc (s.data.toList.take j)).length + 3) cap) (Qx438.esc (s.data.toList.take (j + 1))) w1 := by
                  rw [HE.out, Qx438.esc1, if_neg (by rw [hu]; simp), HAB.out.1, HAB.out.2]
                  exact Buf.grown (Buf.drew (Buf.alloc hBj _)) rfl rfl (by rw [hexB_at, hexB_at]; rfl) hown hgrow (by simp)
                have HF : Hid _ := hfin
                clear hfin hown hgrow hat hlt
                go_wp2
                go_roundw
                case rel => exact ⟨j + 1, by omega, by go_num, HF.out⟩
                case measure => simp [intOf]; omega
          · have e2 : s.data.toList.take j = s.data.toList := List.take_of_length_le (by simp; omega)
            rw [e2] at hBj
            have hcv := hBj.conv
            have hbel := hBj.2.1
            go_wp2
            go_ret
            exact ⟨rfl, hbel⟩

end Go.Proofs.Qxb6001438a
