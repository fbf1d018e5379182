/- The walk of skipQuoted. -/
import Derived.Test.Qxb6001401aNl
set_option linter.unusedSimpArgs false
set_option linter.unusedVariables false
namespace Go.Proofs.Qxb6001401a
open Go.ChangeShapes Go.WideShapes Go.ChangeAt Go.RowKit

/-- so far: from i0 the reader has come to k, and counted c newlines -/
def Skd (q : UInt8) (bs : Bool) (s : ByteArray) (i0 k c : Nat) : Prop :=
  i0 ≤ k ∧ Qx401.sk q bs (s.data.toList.drop i0) = (k - i0 + (Qx401.sk q bs (s.data.toList.drop k)).1, c + (Qx401.sk q bs (s.data.toList.drop k)).2.1, (Qx401.sk q bs (s.data.toList.drop k)).2.2)

theorem drop_at (s : ByteArray) (k : Nat) (h : k < s.size) : s.data.toList.drop k = s[k] :: s.data.toList.drop (k + 1) := by
  rw [List.drop_eq_getElem_cons (by simpa using h)]; rfl

theorem byte_eq (c d : UInt8) : (((c.toNat : Int) == (d.toNat : Int)) = true) ↔ c = d := by
  rw [← UInt8.toNat_inj, beq_iff_eq]; omega

theorem byte_ne (c d : UInt8) : (((c.toNat : Int) == (d.toNat : Int)) = false) ↔ c ≠ d := by
  rw [Ne, ← UInt8.toNat_inj, beq_eq_false_iff_ne]; omega

theorem byte10 (c : UInt8) : (((c.toNat : Int) == 10) = true) ↔ c = 10 := byte_eq c 10
theorem byte10n (c : UInt8) : (((c.toNat : Int) == 10) = false) ↔ c ≠ 10 := byte_ne c 10
theorem byte92 (c : UInt8) : (((c.toNat : Int) == 92) = true) ↔ c = 92 := byte_eq c 92
theorem byte92n (c : UInt8) : (((c.toNat : Int) == 92) = false) ↔ c ≠ 92 := byte_ne c 92

theorem Skd.start (q : UInt8) (bs : Bool) (s : ByteArray) (i : Nat) : Skd q bs s i i 0 := ⟨Nat.le_refl _, by simp⟩

theorem Skd.step {q : UInt8} {bs : Bool} {s : ByteArray} {i0 k c : Nat} (h : Skd q bs s i0 k c) (n m : Nat)
    (e : Qx401.sk q bs (s.data.toList.drop k) = ((Qx401.sk q bs (s.data.toList.drop (k + n))).1 + n, (Qx401.sk q bs (s.data.toList.drop (k + n))).2.1 + m, (Qx401.sk q bs (s.data.toList.drop (k + n))).2.2)) : Skd q bs s i0 (k + n) (c + m) := by
  obtain ⟨h1, h2⟩ := h
  refine ⟨by omega, ?_⟩
  rw [h2, e]
  refine Prod.ext ?_ (Prod.ext ?_ rfl)
  · show k - i0 + (_ + n) = k + n - i0 + _; omega
  · show c + (_ + m) = c + m + _; omega

theorem Skd.nl {q : UInt8} {bs : Bool} {s : ByteArray} {i0 k c : Nat} (h : Skd q bs s i0 k c) (hk : k < s.size) (h1 : ((s[k].toNat : Int) == 10) = true) : Skd q bs s i0 (k + 1) (c + 1) :=
  h.step 1 1 (by rw [drop_at s k hk, (byte10 _).1 h1, Qx401.sk_nl])

theorem Skd.plain {q : UInt8} {bs : Bool} {s : ByteArray} {i0 k c : Nat} (h : Skd q bs s i0 k c) (hk : k < s.size) (h1 : ((s[k].toNat : Int) == 10) = false) (h2 : ((s[k].toNat : Int) == 92) = false) (h3 : ((s[k].toNat : Int) == (q.toNat : Int)) = false) : Skd q bs s i0 (k + 1) c :=
  h.step 1 0 (by rw [drop_at s k hk, Qx401.sk_plain q bs _ _ ((byte10n _).1 h1) ((byte92n _).1 h2) ((byte_ne _ _).1 h3)]; rfl)

theorem Skd.bsOff {q : UInt8} {s : ByteArray} {i0 k c : Nat} (h : Skd q false s i0 k c) (hk : k < s.size) (h2 : ((s[k].toNat : Int) == 92) = true) : Skd q false s i0 (k + 1) c :=
  h.step 1 0 (by rw [drop_at s k hk, (byte92 _).1 h2, Qx401.sk_bs_off]; rfl)

theorem Skd.bsLast {q : UInt8} {bs : Bool} {s : ByteArray} {i0 k c : Nat} (h : Skd q bs s i0 k c) (hk : k < s.size) (hk1 : ¬ k + 1 < s.size) (h2 : ((s[k].toNat : Int) == 92) = true) : Skd q bs s i0 (k + 1) c :=
  h.step 1 0 (by rw [drop_at s k hk, (byte92 _).1 h2, List.drop_eq_nil_of_le (by simp; omega), Qx401.sk_bs_last]; simp [Qx401.sk])

theorem Skd.bsNl {q : UInt8} {s : ByteArray} {i0 k c : Nat} (h : Skd q true s i0 k c) (hk : k < s.size) (hk1 : k + 1 < s.size) (h2 : ((s[k].toNat : Int) == 92) = true) (h1 : ((s[k + 1].toNat : Int) == 10) = true) : Skd q true s i0 (k + 2) (c + 1) :=
  h.step 2 1 (by rw [drop_at s k hk, drop_at s (k + 1) hk1, (byte92 _).1 h2, (byte10 _).1 h1, Qx401.sk_bs_on]; rfl)

theorem Skd.bsOn {q : UInt8} {s : ByteArray} {i0 k c : Nat} (h : Skd q true s i0 k c) (hk : k < s.size) (hk1 : k + 1 < s.size) (h2 : ((s[k].toNat : Int) == 92) = true) (h1 : ((s[k + 1].toNat : Int) == 10) = false) : Skd q true s i0 (k + 2) c :=
  h.step 2 0 (by rw [drop_at s k hk, drop_at s (k + 1) hk1, (byte92 _).1 h2, Qx401.sk_bs_on, if_neg ((byte10n _).1 h1)])

theorem Skd.two {q : UInt8} {bs : Bool} {s : ByteArray} {i0 k c : Nat} (h : Skd q bs s i0 k c) (hk : k < s.size) (hk1 : k + 1 < s.size) (h1 : ((s[k].toNat : Int) == 10) = false) (h2 : ((s[k].toNat : Int) == 92) = false) (h3 : ((s[k].toNat : Int) == (q.toNat : Int)) = true) (h4 : ((s[k + 1].toNat : Int) == (q.toNat : Int)) = true) : Skd q bs s i0 (k + 2) c := by
  refine h.step 2 0 ?_
  have e := (byte_eq _ _).1 h3
  rw [e] at h1 h2
  rw [drop_at s k hk, drop_at s (k + 1) hk1, e, (byte_eq _ _).1 h4, Qx401.sk_two q bs _ ((byte10n _).1 h1) ((byte92n _).1 h2)]
  rfl

theorem Skd.done {q : UInt8} {bs : Bool} {s : ByteArray} {i0 k c : Nat} (h : Skd q bs s i0 k c) (hk : k ≤ s.size) (hk1 : ¬ k < s.size) :
    Qx401.sk q bs (s.data.toList.drop i0) = (k - i0, c, false) := by
  rw [h.2, List.drop_eq_nil_of_le (i := k) (by simp; omega)]; simp [Qx401.sk]

theorem Skd.ended {q : UInt8} {bs : Bool} {s : ByteArray} {i0 k c : Nat} (h : Skd q bs s i0 k c) (hk : k < s.size) (h1 : ((s[k].toNat : Int) == 10) = false) (h2 : ((s[k].toNat : Int) == 92) = false) (h3 : ((s[k].toNat : Int) == (q.toNat : Int)) = true)
    (h4 : ∀ hk1 : k + 1 < s.size, ((s[k + 1].toNat : Int) == (q.toNat : Int)) = false) :
    Qx401.sk q bs (s.data.toList.drop i0) = (k - i0 + 1, c, true) := by
  have e := (byte_eq _ _).1 h3
  rw [e] at h1 h2
  rw [h.2, drop_at s k hk, e, Qx401.sk_end q bs _ ((byte10n _).1 h1) ((byte92n _).1 h2)]
  · rfl
  · by_cases hk1 : k + 1 < s.size
    · rw [drop_at s (k + 1) hk1]
      have := (byte_ne _ _).1 (h4 hk1)
      simpa using this
    · rw [List.drop_eq_nil_of_le (by simp; omega)]; simp

theorem wrap_step (L : Int) (c : Nat) : wrap64 (wrap64 (L + c) + 1) = wrap64 (L + (c + 1 : Nat)) := by
  unfold wrap64; omega

theorem ret_pair {k : IntKind} {a b : Int} {x y : Bool} (h : a = b) (h' : x = y) : Ending.returned (.tuple #[.int k a, .bool x]) = .returned (.tuple #[.int k b, .bool y]) := by rw [h, h']

/-- skipQuoted -/
theorem skip_any (s : ByteArray) (i : Nat) (q : UInt8) (bs : Bool) (b : Nat) (L : Int) (w : World) (hs : s.size ≤ maxLen) (hi : i ≤ s.size) (hL : wrap64 L = L)
    (hcell : w.cell? ⟨b, 0, none⟩ = some (.int .i64 L)) (hfz : w.frozen? ⟨b, 0, none⟩ = false) :
    Calls Try.prog 38 #[.string s, .int .i64 i, .int .u8 q.toNat, .bool bs, .pointer (some ⟨b, 0, none⟩)] w fun e w' =>
      e = .returned (.tuple #[.int .i64 (i + (Qx401.sk q bs (s.data.toList.drop i)).1 : Nat), .bool (Qx401.sk q bs (s.data.toList.drop i)).2.2]) ∧
      w'.cell? ⟨b, 0, none⟩ = some (.int .i64 (wrap64 (L + (Qx401.sk q bs (s.data.toList.drop i)).2.1))) ∧ w'.frozen? ⟨b, 0, none⟩ = false ∧ Below b w w' := by
  unfold maxLen at hs
  have HL : Hid (wrap64 L = L) := hL
  clear hL
  go_enter Try.func38, Try.ntmps38
  go_wp2
  go_loopw [1] (fun i' wr => ∃ k c : Nat, k ≤ s.size ∧ i' = .int .i64 k ∧ wr.cell? ⟨b, 0, none⟩ = some (.int .i64 (wrap64 (L + c))) ∧ wr.frozen? ⟨b, 0, none⟩ = false ∧ Below b w wr ∧ Skd q bs s i k c) (fun i' _ => s.size - (intOf i').toNat)
  case atStart => exact ⟨i, 0, hi, rfl, by rw [hcell]; simp [HL.out], hfz, Below.refl _ _, Skd.start q bs s i⟩
  case round =>
    obtain ⟨k, c, hk, rfl, hcl, hfr, hb, hS⟩ := hrel
    clear hcell hfz
    by_cases hlt : k < s.size
    · by_cases h10 : ((s[k].toNat : Int) == 10) = true
      · go_wp2
        go_roundw
        case rel => exact ⟨k + 1, c + 1, by omega, by go_num, by rw [World.cell?_setCell_same _ _ _ hcl, wrap_step], by simpa using hfr, hb.setCell (Nat.le_refl _) _, hS.nl hlt h10⟩
        case measure => simp [intOf]; omega
      · simp only [Bool.not_eq_true] at h10
        by_cases h92 : ((s[k].toNat : Int) == 92) = true
        · cases bs with
          | false =>
            go_wp2
            go_roundw
            case rel => exact ⟨k + 1, c, by omega, by go_num, hcl, hfr, hb, hS.bsOff hlt h92⟩
            case measure => simp [intOf]; omega
          | true =>
            by_cases hk1 : k + 1 < s.size
            · by_cases h11 : ((s[k + 1].toNat : Int) == 10) = true
              · go_wp2
                go_roundw
                case rel => exact ⟨k + 2, c + 1, by omega, by go_num, by rw [World.cell?_setCell_same _ _ _ hcl, wrap_step], by simpa using hfr, hb.setCell (Nat.le_refl _) _, hS.bsNl hlt hk1 h92 h11⟩
                case measure => simp [intOf]; omega
              · simp only [Bool.not_eq_true] at h11
                go_wp2
                go_roundw
                case rel => exact ⟨k + 2, c, by omega, by go_num, hcl, hfr, hb, hS.bsOn hlt hk1 h92 h11⟩
                case measure => simp [intOf]; omega
            · go_wp2
              go_roundw
              case rel => exact ⟨k + 1, c, by omega, by go_num, hcl, hfr, hb, hS.bsLast hlt hk1 h92⟩
              case measure => simp [intOf]; omega
        · simp only [Bool.not_eq_true] at h92
          by_cases hq : ((s[k].toNat : Int) == (q.toNat : Int)) = true
          · by_cases hk1 : k + 1 < s.size
            · by_cases h11 : ((s[k + 1].toNat : Int) == (q.toNat : Int)) = true
              · go_wp2
                go_roundw
                case rel => exact ⟨k + 2, c, by omega, by go_num, hcl, hfr, hb, hS.two hlt hk1 h10 h92 hq h11⟩
                case measure => simp [intOf]; omega
              · simp only [Bool.not_eq_true] at h11
                have E : Hid _ := hS.ended hlt h10 h92 hq (fun _ => h11)
                have hik := hS.1
                go_wp2
                go_ret2
                rw [E.out]
                exact ⟨ret_pair (by simp; omega) rfl, hcl, hfr, hb⟩
            · have E : Hid _ := hS.ended hlt h10 h92 hq (fun h => absurd h hk1)
              have hik := hS.1
              go_wp2
              go_ret2
              rw [E.out]
              exact ⟨ret_pair (by simp; omega) rfl, hcl, hfr, hb⟩
          · simp only [Bool.not_eq_true] at hq
            go_wp2
            go_roundw
            case rel => exact ⟨k + 1, c, by omega, by go_num, hcl, hfr, hb, hS.plain hlt h10 h92 hq⟩
            case measure => simp [intOf]; omega
    · have E : Hid _ := hS.done hk hlt
      have hik := hS.1
      go_wp2
      go_ret2
      rw [E.out]
      exact ⟨ret_pair (by simp; omega) rfl, hcl, hfr, hb⟩

/-- ZZSkipQuoted -/
theorem zskip_any (s : ByteArray) (i : Nat) (q : UInt8) (bs : Bool) (b : Nat) (L : Int) (w : World) (hs : s.size ≤ maxLen) (hi : i ≤ s.size) (hL : wrap64 L = L)
    (hcell : w.cell? ⟨b, 0, none⟩ = some (.int .i64 L)) (hfz : w.frozen? ⟨b, 0, none⟩ = false) :
    Calls Try.prog 13 #[.string s, .int .i64 i, .int .u8 q.toNat, .bool bs, .pointer (some ⟨b, 0, none⟩)] w fun e w' =>
      e = .returned (.tuple #[.int .i64 (i + (Qx401.sk q bs (s.data.toList.drop i)).1 : Nat), .bool (Qx401.sk q bs (s.data.toList.drop i)).2.2]) ∧
      w'.cell? ⟨b, 0, none⟩ = some (.int .i64 (wrap64 (L + (Qx401.sk q bs (s.data.toList.drop i)).2.1))) ∧ w'.frozen? ⟨b, 0, none⟩ = false ∧ Below b w w' := by
  have C := skip_any s i q bs b L w hs hi hL hcell hfz
  clear hL hcell hfz
  generalize Qx401.sk q bs (s.data.toList.drop i) = x at *
  obtain ⟨n, c, ok⟩ := x
  have HC : Hid _ := C
  clear C
  go_enter Try.func13, Try.ntmps13
  go_wp2_with fail
  refine Calls.mono HC.out ?_
  rintro e w' ⟨rfl, hcl, hfr, hb⟩
  go_wp2
  go_ret2
  exact ⟨rfl, hcl, hfr, hb⟩

end Go.Proofs.Qxb6001401a
