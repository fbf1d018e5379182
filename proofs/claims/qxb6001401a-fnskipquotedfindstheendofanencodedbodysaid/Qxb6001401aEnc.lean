/- The walk of zzEncode. -/
import Derived.Test.Qxb6001401aSkip
import Derived.WalkSpells
set_option linter.unusedSimpArgs false
set_option linter.unusedVariables false
namespace Go.Proofs.Qxb6001401a
open Go.ChangeShapes Go.WideShapes Go.ChangeAt Go.RowKit

/-- bytes as cells -/
def bcells (l : List UInt8) : List Value := l.map fun b => Value.int .u8 b.toNat

theorem bcells_append (a b : List UInt8) : bcells (a ++ b) = bcells a ++ bcells b := by simp [bcells]
theorem bcells_length (a : List UInt8) : (bcells a).length = a.length := by simp [bcells]
theorem bcells_one (l : List UInt8) : ∀ u ∈ bcells l, u.oneCell' = true := by
  intro u hu
  simp only [bcells, List.mem_map] at hu
  obtain ⟨b, _, rfl⟩ := hu
  rfl

theorem Try.info5 : (Try.prog.info? 5).map (fun i => (i.zero, i.size, i.bytes)) = some (some (.int .u8 0), 1, 1) := by kernel_rfl

theorem enc_one (q : UInt8) (bs : Bool) (s : ByteArray) (k : Nat) (h : k < s.size) : Qx401.enc q bs (s.data.toList.take (k + 1)) = Qx401.enc q bs (s.data.toList.take k) ++ Qx401.enc q bs [s[k]] := by
  rw [take_snoc s k h, Qx401.enc_append]

theorem enc_two (q : UInt8) (bs : Bool) (c : UInt8) (h : ((c.toNat : Int) == (q.toNat : Int)) = true ∨ (bs = true ∧ ((c.toNat : Int) == 92) = true)) : Qx401.enc q bs [c] = [c, c] := by
  simp only [Qx401.enc]
  rw [if_pos]
  rcases h with h | ⟨h1, h2⟩
  · exact .inl ((byte_eq _ _).1 h)
  · exact .inr ⟨h1, (byte92 _).1 h2⟩

theorem enc_single (q : UInt8) (bs : Bool) (c : UInt8) (h : ((c.toNat : Int) == (q.toNat : Int)) = false) (h2 : bs = false ∨ ((c.toNat : Int) == 92) = false) : Qx401.enc q bs [c] = [c] := by
  simp only [Qx401.enc]
  rw [if_neg]
  rintro (h' | ⟨h', h''⟩)
  · exact (byte_ne _ _).1 h h'
  · rcases h2 with h2 | h2
    · rw [h2] at h'; cases h'
    · exact (byte92n _).1 h2 h''

theorem one_new (w : World) (v : Value) (t : TypeId) : ∀ j u, ([v] : List Value)[j]? = some u → (w.alloc (.cells #[v] t)).cell? ((⟨w.heap.size, 0, none⟩ : Addr).add j) = some u := by
  intro j u hj
  match j, hj with
  | 0, hj => simp at hj; subst hj; simp [Addr.add]

/-- the loop's own: k bytes of the body are written -/
def EncAt (w : World) (q : UInt8) (bs : Bool) (s : ByteArray) (k : Nat) (v : Value) (wr : World) : Prop :=
  v = .slice (some ⟨w.heap.size, 0, none⟩) (Qx401.enc q bs (s.data.toList.take k)).length (2 * s.size) ∧
  wr.ownsRow w.heap.size 5 1 (.slice (some ⟨w.heap.size, 0, none⟩) (Qx401.enc q bs (s.data.toList.take k)).length (2 * s.size)) (Qx401.enc q bs (s.data.toList.take k)).length (bcells (Qx401.enc q bs (s.data.toList.take k))) ∧ Below w.heap.size w wr

theorem EncAt.step {w : World} {q : UInt8} {bs : Bool} {s : ByteArray} {k : Nat} {w1 : World} (hk : k < s.size) (l : List UInt8) (m n : Nat) (xs : List Value)
    (hl : Qx401.enc q bs [s[k]] = l) (hm : m = (Qx401.enc q bs (s.data.toList.take k)).length + l.length) (hn : m = n) (hx : xs = bcells (Qx401.enc q bs (s.data.toList.take k)) ++ bcells l)
    (hown : w1.ownsRow w.heap.size 5 1 (.slice (some ⟨w.heap.size, 0, none⟩) m (2 * s.size)) m xs) (hb : Below w.heap.size w w1) :
    EncAt w q bs s (k + 1) (.slice (some ⟨w.heap.size, 0, none⟩) n (2 * s.size)) w1 := by
  subst hn
  have e : Qx401.enc q bs (s.data.toList.take (k + 1)) = Qx401.enc q bs (s.data.toList.take k) ++ l := by rw [enc_one q bs s k hk, hl]
  have e2 : (Qx401.enc q bs (s.data.toList.take (k + 1))).length = m := by rw [e, List.length_append, hm]
  refine ⟨by rw [e2], ?_, hb⟩
  rw [e2, e, bcells_append, ← hx]
  exact hown

set_option maxHeartbeats 1000000 in
theorem enc_any (s : ByteArray) (q : UInt8) (bs : Bool) (w : World) (hs : s.size ≤ 1048576) :
    Calls Try.prog 16 #[.string s, .int .u8 q.toNat, .bool bs] w fun e w' =>
      e = .returned (.slice (some ⟨w.heap.size, 0, none⟩) (Qx401.enc q bs s.data.toList).length (2 * s.size)) ∧
      w'.ownsRow w.heap.size 5 1 (.slice (some ⟨w.heap.size, 0, none⟩) (Qx401.enc q bs s.data.toList).length (2 * s.size)) (Qx401.enc q bs s.data.toList).length (bcells (Qx401.enc q bs s.data.toList)) ∧ Below w.heap.size w w' := by
  obtain ⟨i0, hi, hz0, hz1, hz2⟩ := info_parts Try.info5
  go_enter Try.func16, Try.ntmps16
  go_wp2_with (at_make; go_must (refine wpList_make_own _ rfl _ _ 28 rfl w.heap.size 5 i0 (.int .u8 0) 1 Try.underlying28 hi hz0 hz1 _ _ _ (2 * s.size) rfl rfl (by omega) (by rw [hz2]; omega) (by unfold maxLen; omega) (Nat.le_refl _) ?_))
  intro w0 hown0 hg0
  have hb0 : Below w.heap.size w w0 := (Below.refl _ _).grown hg0 (Nat.le_refl _) (fun k h => by cases h)
  clear hg0
  go_wp2
  go_loopw [7, 8] (fun v i wr => ∃ k : Nat, k ≤ s.size ∧ i = .int .i64 k ∧ EncAt w q bs s k v wr) (fun _ i _ => s.size - (intOf i).toNat)
  case atStart => exact ⟨0, Nat.zero_le _, rfl, rfl, hown0, hb0⟩
  case round =>
    obtain ⟨k, hk, rfl, rfl, hown, hb⟩ := hrel
    clear hown0 hb0
    have hsz := hb.size
    have hen := Qx401.enc_length q bs (s.data.toList.take k)
    have htl : (s.data.toList.take k).length = k := by simp; omega
    rw [htl] at hen
    clear htl
    by_cases hlt : k < s.size
    · by_cases hq : ((s[k].toNat : Int) == (q.toNat : Int)) = true
      · go_wp2_with (first | (at_builtin; refine wpList_append_fits _ rfl (.tmp 33) (.tmp 35) 28 rfl w.heap.size 5 i0 1 Try.underlying28 hi hz1 w.heap.size _ _ _ rfl (hown.alloc _) ⟨wr.heap.size, 0, none⟩ 1 1 [.int .u8 s[k].toNat] rfl rfl (one_new _ _ _) (bcells_one [s[k]]) (by omega) ?_; intro w1 hown1 hg1) | (at_builtin; refine wpList_append_fits _ rfl (.tmp 37) (.tmp 39) 28 rfl w.heap.size 5 i0 1 Try.underlying28 hi hz1 w.heap.size _ _ _ rfl (hown1.alloc _) ⟨w1.heap.size, 0, none⟩ 1 1 [.int .u8 s[k].toNat] rfl rfl (one_new _ _ _) (bcells_one [s[k]]) (by omega) ?_; intro w2 hown2 hg2))
        go_roundw
        case rel =>
          have s1 := hg1.size
          have hb1 : Below w.heap.size w w1 := (hb.alloc (by omega) _).grown hg1 (by simp; omega) (fun j h => by cases h; exact Nat.le_refl _)
          have hb2 : Below w.heap.size w w2 := (hb1.alloc (by simp at s1; omega) _).grown hg2 (by simp at s1 ⊢; omega) (fun j h => by cases h; exact Nat.le_refl _)
          exact ⟨k + 1, by omega, by go_num, EncAt.step hlt [s[k], s[k]] _ _ _ (enc_two q bs _ (.inl hq)) (by simp) rfl (by simp [bcells]) hown2 hb2⟩
        case measure => simp [intOf]; omega
      · simp only [Bool.not_eq_true] at hq
        cases bs with
        | false =>
          go_wp2_with (at_builtin; refine wpList_append_fits _ rfl (.tmp 37) (.tmp 39) 28 rfl w.heap.size 5 i0 1 Try.underlying28 hi hz1 w.heap.size _ _ _ rfl (hown.alloc _) ⟨wr.heap.size, 0, none⟩ 1 1 [.int .u8 s[k].toNat] rfl rfl (one_new _ _ _) (bcells_one [s[k]]) (by omega) ?_; intro w1 hown1 hg1)
          go_roundw
          case rel =>
            have hb1 : Below w.heap.size w w1 := (hb.alloc (by omega) _).grown hg1 (by simp; omega) (fun j h => by cases h; exact Nat.le_refl _)
            exact ⟨k + 1, by omega, by go_num, EncAt.step hlt [s[k]] _ _ _ (enc_single q false _ hq (.inl rfl)) (by simp) rfl (by simp [bcells]) hown1 hb1⟩
          case measure => simp [intOf]; omega
        | true =>
          by_cases h92 : ((s[k].toNat : Int) == 92) = true
          · go_wp2_with (first | (at_builtin; refine wpList_append_fits _ rfl (.tmp 33) (.tmp 35) 28 rfl w.heap.size 5 i0 1 Try.underlying28 hi hz1 w.heap.size _ _ _ rfl (hown.alloc _) ⟨wr.heap.size, 0, none⟩ 1 1 [.int .u8 s[k].toNat] rfl rfl (one_new _ _ _) (bcells_one [s[k]]) (by omega) ?_; intro w1 hown1 hg1) | (at_builtin; refine wpList_append_fits _ rfl (.tmp 37) (.tmp 39) 28 rfl w.heap.size 5 i0 1 Try.underlying28 hi hz1 w.heap.size _ _ _ rfl (hown1.alloc _) ⟨w1.heap.size, 0, none⟩ 1 1 [.int .u8 s[k].toNat] rfl rfl (one_new _ _ _) (bcells_one [s[k]]) (by omega) ?_; intro w2 hown2 hg2))
            go_roundw
            case rel =>
              have s1 := hg1.size
              have hb1 : Below w.heap.size w w1 := (hb.alloc (by omega) _).grown hg1 (by simp; omega) (fun j h => by cases h; exact Nat.le_refl _)
              have hb2 : Below w.heap.size w w2 := (hb1.alloc (by simp at s1; omega) _).grown hg2 (by simp at s1 ⊢; omega) (fun j h => by cases h; exact Nat.le_refl _)
              exact ⟨k + 1, by omega, by go_num, EncAt.step hlt [s[k], s[k]] _ _ _ (enc_two q true _ (.inr ⟨rfl, h92⟩)) (by simp) rfl (by simp [bcells]) hown2 hb2⟩
            case measure => simp [intOf]; omega
          · simp only [Bool.not_eq_true] at h92
            go_wp2_with (at_builtin; refine wpList_append_fits _ rfl (.tmp 37) (.tmp 39) 28 rfl w.heap.size 5 i0 1 Try.underlying28 hi hz1 w.heap.size _ _ _ rfl (hown.alloc _) ⟨wr.heap.size, 0, none⟩ 1 1 [.int .u8 s[k].toNat] rfl rfl (one_new _ _ _) (bcells_one [s[k]]) (by omega) ?_; intro w1 hown1 hg1)
            go_roundw
            case rel =>
              have hb1 : Below w.heap.size w w1 := (hb.alloc (by omega) _).grown hg1 (by simp; omega) (fun j h => by cases h; exact Nat.le_refl _)
              exact ⟨k + 1, by omega, by go_num, EncAt.step hlt [s[k]] _ _ _ (enc_single q true _ hq (.inr h92)) (by simp) rfl (by simp [bcells]) hown1 hb1⟩
            case measure => simp [intOf]; omega
    · go_wp2
      go_ret
      rw [List.take_of_length_le (by simp; omega)] at hown
      exact ⟨by rw [List.take_of_length_le (by simp; omega)]; rfl, hown, hb⟩

end Go.Proofs.Qxb6001401a
