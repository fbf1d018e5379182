/- The plain mathematics of escaping: no Go in sight. -/
set_option linter.unusedSimpArgs false
set_option linter.unusedVariables false
namespace Qx438

/-- the unreserved bytes, by their numbers -/
def unresN (n : Nat) : Bool := (65 ≤ n && n ≤ 90) || (97 ≤ n && n ≤ 122) || (48 ≤ n && n ≤ 57) || n == 45 || n == 95 || n == 46 || n == 126

def unres (c : UInt8) : Bool := unresN c.toNat

/-- the set, as a table -/
def table : List UInt8 := [65, 66, 67, 68, 69, 70, 71, 72, 73, 74, 75, 76, 77, 78, 79, 80, 81, 82, 83, 84, 85, 86, 87, 88, 89, 90, 97, 98, 99, 100, 101, 102, 103, 104, 105, 106, 107, 108, 109, 110, 111, 112, 113, 114, 115, 116, 117, 118, 119, 120, 121, 122, 48, 49, 50, 51, 52, 53, 54, 55, 56, 57, 45, 95, 46, 126]

theorem table_size : table.length = 66 := rfl

theorem table_all : ∀ n, n < 256 → (table.map UInt8.toNat).contains n = unresN n := by decide +kernel

theorem table_unres (c : UInt8) : table.contains c = unres c := by
  have h := table_all c.toNat c.toNat_lt
  unfold unres
  rw [← h, Bool.eq_iff_iff]
  simp only [List.contains_iff_mem, List.mem_map]
  exact ⟨fun hc => ⟨c, hc, rfl⟩, fun ⟨d, hd, e⟩ => by rw [← UInt8.toNat_inj.1 e]; exact hd⟩

theorem unres_of_at {c : UInt8} {k : Nat} (h : table[k]? = some c) : unres c = true := by
  rw [← table_unres]
  exact List.contains_iff_mem.2 (List.mem_of_getElem? h)

theorem unres_none {c : UInt8} (h : ∀ (k : Nat) (d : UInt8), table[k]? = some d → d ≠ c) : unres c = false := by
  rw [← table_unres]
  cases hc : table.contains c with
  | false => rfl
  | true =>
    have hm := List.contains_iff_mem.1 hc
    obtain ⟨k, hk⟩ := List.mem_iff_getElem?.1 hm
    exact absurd rfl (h k c hk)

/-- the digit of a half byte -/
def hexd (n : Nat) : UInt8 := if n < 10 then UInt8.ofNat (48 + n) else UInt8.ofNat (55 + n)

/-- what one byte is written as -/
def esc1 (c : UInt8) : List UInt8 := if unres c then [c] else [37, hexd (c.toNat / 16), hexd (c.toNat % 16)]

def esc : List UInt8 → List UInt8
  | [] => []
  | c :: r => esc1 c ++ esc r

theorem esc_append (a b : List UInt8) : esc (a ++ b) = esc a ++ esc b := by
  induction a with
  | nil => rfl
  | cons c r ih => simp only [List.cons_append, esc, ih, List.append_assoc]

theorem esc1_length (c : UInt8) : (esc1 c).length = if unres c then 1 else 3 := by unfold esc1; split <;> rfl

/-- how many bytes are not unreserved -/
def bad (l : List UInt8) : Nat := (l.filter fun c => !unres c).length

theorem bad_append (a b : List UInt8) : bad (a ++ b) = bad a + bad b := by simp [bad]
theorem bad_le (l : List UInt8) : bad l ≤ l.length := List.length_filter_le _ _

theorem esc_length (l : List UInt8) : (esc l).length = l.length + 2 * bad l := by
  induction l with
  | nil => rfl
  | cons c r ih =>
    simp only [esc, List.length_append, esc1_length, ih, bad, List.filter_cons, List.length_cons]
    cases unres c <;> simp <;> omega

theorem esc_fixed (l : List UInt8) (h : bad l = 0) : esc l = l := by
  induction l with
  | nil => rfl
  | cons c r ih =>
    have e : bad (c :: r) = (if unres c then 0 else 1) + bad r := by
      simp only [bad, List.filter_cons]
      cases unres c <;> simp <;> omega
    rw [e] at h
    cases hc : unres c with
    | false => simp [hc] at h
    | true =>
      simp only [hc, if_true] at h
      simp only [esc, esc1, hc, if_true]
      rw [ih (by omega)]
      rfl

/-- the digits are read back -/
def hexv (n : Nat) : Option Nat := if 48 ≤ n ∧ n ≤ 57 then some (n - 48) else if 65 ≤ n ∧ n ≤ 70 then some (n - 55) else none

theorem hexd_val (n : Nat) (h : n < 16) : (hexd n).toNat = if n < 10 then 48 + n else 55 + n := by
  unfold hexd
  split
  · simp; omega
  · simp; omega

theorem percent_no : unres 37 = false := by decide +kernel

end Qx438
