/-
  The plain laws: where a text's first high byte lies; where the run of doubled pairs at its start ends. No Go in sight.
-/
namespace Go.Proofs.Qxb6608715a

/-- How many bytes below 128 stand ahead of the first that is not. -/
def fh : List UInt8 → Nat
  | [] => 0
  | c :: l => if c < 128 then fh l + 1 else 0

theorem fh_le : ∀ l, fh l ≤ l.length
  | [] => Nat.le_refl _
  | c :: l => by
    have := fh_le l
    unfold fh
    split <;> simp <;> omega

theorem fh_low {c : UInt8} {l : List UInt8} (h : c < 128) : fh (c :: l) = fh l + 1 := by rw [fh, if_pos h]
theorem fh_high {c : UInt8} {l : List UInt8} (h : ¬ c < 128) : fh (c :: l) = 0 := by rw [fh, if_neg h]

theorem fh_append : ∀ l m, fh (l ++ m) = if fh l < l.length then fh l else l.length + fh m
  | [], m => by simp [fh]
  | c :: l, m => by
    have ih := fh_append l m
    have hle := fh_le l
    rw [List.cons_append, List.length_cons]
    by_cases hc : c < 128
    · rw [fh_low hc, fh_low hc, ih]
      by_cases h : fh l < l.length
      · rw [if_pos h, if_pos (by omega)]
      · rw [if_neg h, if_neg (by omega)]; omega
    · rw [fh_high hc, fh_high hc, if_pos (by omega)]

/-- The first k bytes are low, and byte k is not: k. -/
theorem fh_stop (l m : List UInt8) (c : UInt8) (h : fh l = l.length) (hc : ¬ c < 128) : fh (l ++ c :: m) = l.length := by
  rw [fh_append, if_neg (by omega), fh, if_neg hc, Nat.add_zero]

theorem fh_more (l : List UInt8) (c : UInt8) (h : fh l = l.length) (hc : c < 128) : fh (l ++ [c]) = (l ++ [c]).length := by
  rw [fh_append, if_neg (by omega), fh, if_pos hc, fh]; simp

/-- Where the run of doubled pairs at a text's start ends. -/
def pf : List UInt8 → Nat
  | [] => 0
  | [_] => 0
  | a :: b :: l => if a = b then pf l + 2 else 0

theorem pf_le : ∀ l, pf l ≤ l.length
  | [] => Nat.le_refl _
  | [_] => by simp [pf]
  | a :: b :: l => by
    have := pf_le l
    unfold pf
    split <;> simp <;> omega

theorem pf_even : ∀ l, pf l % 2 = 0
  | [] => rfl
  | [_] => rfl
  | a :: b :: l => by
    have := pf_even l
    unfold pf
    split <;> omega

theorem pf_two {a b : UInt8} {l : List UInt8} (h : a = b) : pf (a :: b :: l) = pf l + 2 := by rw [pf, if_pos h]
theorem pf_not {a b : UInt8} {l : List UInt8} (h : ¬ a = b) : pf (a :: b :: l) = 0 := by rw [pf, if_neg h]

/-- Cut at an even place. -/
theorem pf_append : ∀ l m, l.length % 2 = 0 → pf (l ++ m) = if pf l < l.length then pf l else l.length + pf m
  | [], m, _ => by simp [pf]
  | [_], m, h => by simp at h
  | a :: b :: l, m, h => by
    have ih := pf_append l m (by simp at h; omega)
    have hle := pf_le l
    rw [List.cons_append, List.cons_append, List.length_cons, List.length_cons]
    by_cases hc : a = b
    · rw [pf_two hc, pf_two hc, ih]
      by_cases hl : pf l < l.length
      · rw [if_pos hl, if_pos (by omega)]
      · rw [if_neg hl, if_neg (by omega)]; omega
    · rw [pf_not hc, pf_not hc, if_pos (by omega)]

theorem pf_stop (l m : List UInt8) (h : pf l = l.length) (hm : pf m = 0) : pf (l ++ m) = l.length := by
  rw [pf_append l m (by rw [← h]; exact pf_even l), if_neg (by omega), hm, Nat.add_zero]

theorem pf_more (l : List UInt8) (c : UInt8) (h : pf l = l.length) : pf (l ++ [c, c]) = (l ++ [c, c]).length := by
  rw [pf_append l _ (by rw [← h]; exact pf_even l), if_neg (by omega)]
  simp [pf]

/-- Below its end every pair is doubled. -/
theorem pf_pairs : ∀ l j, j % 2 = 0 → j < pf l → l[j]? = l[j + 1]?
  | [], j, _, h => by simp [pf] at h
  | [_], j, _, h => by simp [pf] at h
  | a :: b :: l, j, he, h => by
    unfold pf at h
    split at h
    · rename_i hab
      match j with
      | 0 => simp [hab]
      | 1 => omega
      | j + 2 =>
        have := pf_pairs l j (by omega) (by omega)
        simpa using this
    · omega

/-- At its end no doubled pair stands. -/
theorem pf_end : ∀ l, pf l + 1 < l.length → l[pf l]? ≠ l[pf l + 1]?
  | [], h => by simp at h
  | [_], h => by simp at h
  | a :: b :: l, h => by
    by_cases hab : a = b
    · have ih := pf_end l
      simp only [pf, hab, if_true, List.length_cons] at h ⊢
      have := ih (by omega)
      simpa using this
    · simp only [pf, hab, if_false]
      simpa using hab
end Go.Proofs.Qxb6608715a
