/-
  The plain mathematics of the quoted text's reader: no Go in sight.
-/
set_option linter.unusedSimpArgs false
namespace Qx401

/-- how many newlines a text holds -/
def nl (l : List UInt8) : Nat := l.count 10

/-- the reader of a quoted text: how many bytes it passes, how many newlines it counts, whether the text ends -/
def sk (q : UInt8) (bs : Bool) : List UInt8 → Nat × Nat × Bool
  | [] => (0, 0, false)
  | [c] => if c = 10 then (1, 1, false) else if c = 92 then (1, 0, false) else if c = q then (1, 0, true) else (1, 0, false)
  | c :: d :: r =>
    if c = 10 then ((sk q bs (d :: r)).1 + 1, (sk q bs (d :: r)).2.1 + 1, (sk q bs (d :: r)).2.2)
    else if c = 92 then
      if bs then ((sk q bs r).1 + 2, (sk q bs r).2.1 + (if d = 10 then 1 else 0), (sk q bs r).2.2)
      else ((sk q bs (d :: r)).1 + 1, (sk q bs (d :: r)).2.1, (sk q bs (d :: r)).2.2)
    else if c = q then
      if d = q then ((sk q bs r).1 + 2, (sk q bs r).2.1, (sk q bs r).2.2)
      else (1, 0, true)
    else ((sk q bs (d :: r)).1 + 1, (sk q bs (d :: r)).2.1, (sk q bs (d :: r)).2.2)

theorem sk_nl (q : UInt8) (bs : Bool) (r : List UInt8) : sk q bs (10 :: r) = ((sk q bs r).1 + 1, (sk q bs r).2.1 + 1, (sk q bs r).2.2) := by
  cases r <;> simp [sk]

theorem sk_plain (q : UInt8) (bs : Bool) (c : UInt8) (r : List UInt8) (h1 : c ≠ 10) (h2 : c ≠ 92) (h3 : c ≠ q) : sk q bs (c :: r) = ((sk q bs r).1 + 1, (sk q bs r).2.1, (sk q bs r).2.2) := by
  cases r <;> simp [sk, h1, h2, h3]

theorem sk_bs_off (q : UInt8) (r : List UInt8) : sk q false (92 :: r) = ((sk q false r).1 + 1, (sk q false r).2.1, (sk q false r).2.2) := by
  cases r <;> simp [sk]

theorem sk_bs_last (q : UInt8) (bs : Bool) : sk q bs [92] = (1, 0, false) := by simp [sk]

theorem sk_bs_on (q : UInt8) (d : UInt8) (r : List UInt8) : sk q true (92 :: d :: r) = ((sk q true r).1 + 2, (sk q true r).2.1 + (if d = 10 then 1 else 0), (sk q true r).2.2) := by
  simp [sk]

theorem sk_two (q : UInt8) (bs : Bool) (r : List UInt8) (h1 : q ≠ 10) (h2 : q ≠ 92) : sk q bs (q :: q :: r) = ((sk q bs r).1 + 2, (sk q bs r).2.1, (sk q bs r).2.2) := by
  simp [sk, h1, h2]

theorem sk_end (q : UInt8) (bs : Bool) (r : List UInt8) (h1 : q ≠ 10) (h2 : q ≠ 92) (h : r.head? ≠ some q) : sk q bs (q :: r) = (1, 0, true) := by
  cases r with
  | nil => simp [sk, h1, h2]
  | cons d r =>
    have : d ≠ q := by simpa using h
    simp [sk, h1, h2, this]

/-- the first law: bounds, the end, the newlines passed -/
def Good (q : UInt8) (l : List UInt8) (x : Nat × Nat × Bool) : Prop :=
  x.1 ≤ l.length ∧ x.2.1 = nl (l.take x.1) ∧ (x.2.2 = true → 1 ≤ x.1 ∧ l[x.1 - 1]? = some q ∧ l[x.1]? ≠ some q) ∧ (x.2.2 = false → x.1 = l.length)

theorem good_cons (q c : UInt8) (l : List UInt8) (x : Nat × Nat × Bool) (n : Nat) (hn : n = if c = 10 then 1 else 0) (h : Good q l x) : Good q (c :: l) (x.1 + 1, x.2.1 + n, x.2.2) := by
  obtain ⟨h1, h2, h3, h4⟩ := h
  refine ⟨by simp; omega, ?_, ?_, ?_⟩
  · simp only [List.take_succ_cons, nl, List.count_cons, h2, hn]
    by_cases hc : c = 10 <;> simp [hc]
  · intro hb
    obtain ⟨g1, g2, g3⟩ := h3 hb
    refine ⟨by simp, ?_, ?_⟩
    · simp only [Nat.add_sub_cancel]
      obtain ⟨m, hm⟩ : ∃ m, x.1 = m + 1 := ⟨x.1 - 1, by omega⟩
      rw [hm] at g2 ⊢
      simpa using g2
    · simpa using g3
  · intro hb
    simp [h4 hb]

theorem sk_good (q : UInt8) (bs : Bool) : ∀ l, Good q l (sk q bs l) ∧ ∀ c, Good q (c :: l) (sk q bs (c :: l)) := by
  intro l
  have one : ∀ c, Good q [c] (sk q bs [c]) := by
    intro c
    simp only [sk]
    by_cases h1 : c = 10
    · subst h1; simp [Good, nl]
    · rw [if_neg h1]
      by_cases h2 : c = 92
      · subst h2; simp [Good, nl]
      · rw [if_neg h2]
        by_cases h3 : c = q
        · subst h3; simp [Good, nl, List.count_cons, h1]
        · rw [if_neg h3]; simp [Good, nl, List.count_cons, h1]
  induction l with
  | nil => exact ⟨by simp [sk, Good, nl], one⟩
  | cons d r ih =>
    refine ⟨ih.2 d, fun c => ?_⟩
    have hr := ih.1
    have hd := ih.2 d
    simp only [sk]
    by_cases h1 : c = 10
    · rw [if_pos h1]
      exact good_cons q c _ _ 1 (by simp [h1]) hd
    · rw [if_neg h1]
      by_cases h2 : c = 92
      · rw [if_pos h2]
        cases bs with
        | true =>
          have a := good_cons q d _ _ (if d = 10 then 1 else 0) rfl hr
          have b := good_cons q c _ _ 0 (by simp [h1]) a
          simpa using b
        | false =>
          have b := good_cons q c _ _ 0 (by simp [h1]) hd
          simpa using b
      · rw [if_neg h2]
        by_cases h3 : c = q
        · rw [if_pos h3]
          by_cases h4 : d = q
          · rw [if_pos h4]
            have hd10 : d ≠ 10 := by rw [h4, ← h3]; exact h1
            have a := good_cons q d _ _ 0 (by simp [hd10]) hr
            have b := good_cons q c _ _ 0 (by simp [h1]) a
            simpa using b
          · rw [if_neg h4]
            simp [Good, nl, List.count_cons, h1, h3, h4]
            subst h3; simpa using h1
        · rw [if_neg h3]
          have b := good_cons q c _ _ 0 (by simp [h1]) hd
          simpa using b

/-- a body, written as the inside of a quoted text -/
def enc (q : UInt8) (bs : Bool) : List UInt8 → List UInt8
  | [] => []
  | c :: r => if c = q ∨ (bs = true ∧ c = 92) then c :: c :: enc q bs r else c :: enc q bs r

theorem enc_append (q : UInt8) (bs : Bool) (a b : List UInt8) : enc q bs (a ++ b) = enc q bs a ++ enc q bs b := by
  induction a with
  | nil => rfl
  | cons c r ih => simp only [List.cons_append, enc]; split <;> simp [ih]

theorem enc_length (q : UInt8) (bs : Bool) (a : List UInt8) : a.length ≤ (enc q bs a).length ∧ (enc q bs a).length ≤ 2 * a.length := by
  induction a with
  | nil => simp [enc]
  | cons c r ih => simp only [enc]; split <;> simp <;> omega

/-- the second and third law in one: what the reader makes of an encoded body with a rest behind it -/
theorem sk_enc (q : UInt8) (bs : Bool) (h1 : q ≠ 10) (h2 : q ≠ 92) (b t : List UInt8) :
    sk q bs (enc q bs b ++ t) = ((enc q bs b).length + (sk q bs t).1, nl b + (sk q bs t).2.1, (sk q bs t).2.2) := by
  induction b with
  | nil => simp [enc, nl]
  | cons c r ih =>
    by_cases hq : c = q
    · subst hq
      simp only [enc, true_or, if_true, List.cons_append]
      rw [sk_two c bs _ h1 h2, ih]
      simp [nl, List.count_cons, h1]
      omega
    · by_cases hb : bs = true ∧ c = 92
      · obtain ⟨rfl, rfl⟩ := hb
        simp only [enc, and_self, or_true, if_true, List.cons_append]
        rw [sk_bs_on, ih]
        simp [nl]
        omega
      · have he : enc q bs (c :: r) = c :: enc q bs r := by
          simp only [enc]; rw [if_neg]; rintro (h | h)
          · exact hq h
          · exact hb h
        rw [he, List.cons_append]
        by_cases h10 : c = 10
        · subst h10
          rw [sk_nl, ih]
          simp [nl]
          omega
        · by_cases h92 : c = 92
          · subst h92
            have : bs = false := by cases bs <;> simp_all
            subst this
            rw [sk_bs_off, ih]
            simp [nl]
            omega
          · rw [sk_plain q bs c _ h10 h92 hq, ih]
            simp [nl, List.count_cons, h10]
            omega

theorem sk_encoded (q : UInt8) (bs : Bool) (h1 : q ≠ 10) (h2 : q ≠ 92) (b t : List UInt8) (ht : t.head? ≠ some q) :
    sk q bs (enc q bs b ++ q :: t) = ((enc q bs b).length + 1, nl b, true) := by
  rw [sk_enc q bs h1 h2, sk_end q bs t h1 h2 ht]; simp

theorem sk_unended (q : UInt8) (bs : Bool) (h1 : q ≠ 10) (h2 : q ≠ 92) (b : List UInt8) :
    sk q bs (enc q bs b) = ((enc q bs b).length, nl b, false) := by
  have := sk_enc q bs h1 h2 b []
  simpa [sk] using this

end Qx401
