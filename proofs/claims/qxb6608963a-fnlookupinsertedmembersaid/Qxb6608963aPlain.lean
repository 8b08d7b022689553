/-
  The plain laws of a look-up among pairs: the first pair whose name is the one asked for. No Go in sight.
-/
namespace Go.Proofs.Qxb6608963a

/-- The value of the first pair with that name. -/
def look : List (ByteArray × ByteArray) → ByteArray → Option ByteArray
  | [], _ => none
  | p :: l, nm => if (p.1.toList == nm.toList) = true then some p.2 else look l nm

theorem look_append (nm : ByteArray) : ∀ l m, look (l ++ m) nm = match look l nm with | some v => some v | none => look m nm
  | [], m => rfl
  | p :: l, m => by
    rw [List.cons_append, look, look]
    by_cases h : (p.1.toList == nm.toList) = true
    · rw [if_pos h, if_pos h]
    · rw [if_neg h, if_neg h, look_append nm l m]

theorem look_left {nm : ByteArray} {l m : List (ByteArray × ByteArray)} {v : ByteArray} (h : look l nm = some v) : look (l ++ m) nm = some v := by
  rw [look_append, h]
theorem look_right {nm : ByteArray} {l m : List (ByteArray × ByteArray)} (h : look l nm = none) : look (l ++ m) nm = look m nm := by
  rw [look_append, h]
theorem look_hit {nm : ByteArray} {p : ByteArray × ByteArray} {m : List (ByteArray × ByteArray)} (h : (p.1.toList == nm.toList) = true) : look (p :: m) nm = some p.2 := by
  rw [look, if_pos h]
theorem look_miss {nm : ByteArray} {p : ByteArray × ByteArray} {m : List (ByteArray × ByteArray)} (h : (p.1.toList == nm.toList) = false) : look (p :: m) nm = look m nm := by
  rw [look, if_neg (by simp [h])]

/-- No pair below k bears the name; pair k does. -/
theorem look_at {ps : List (ByteArray × ByteArray)} {nm : ByteArray} {k : Nat} {p : ByteArray × ByteArray} (h : look (ps.take k) nm = none) (hp : ps[k]? = some p) (hn : (p.1.toList == nm.toList) = true) : look ps nm = some p.2 := by
  obtain ⟨hk, rfl⟩ := List.getElem?_eq_some_iff.1 hp
  have e : ps = ps.take k ++ ps[k] :: ps.drop (k + 1) := by
    rw [← List.drop_eq_getElem_cons hk, List.take_append_drop]
  have h2 : look (ps.take k ++ ps[k] :: ps.drop (k + 1)) nm = some ps[k].2 := by rw [look_right h, look_hit hn]
  rw [← e] at h2
  exact h2
theorem look_more {ps : List (ByteArray × ByteArray)} {nm : ByteArray} {k : Nat} {p : ByteArray × ByteArray} (h : look (ps.take k) nm = none) (hp : ps[k]? = some p) (hn : (p.1.toList == nm.toList) = false) : look (ps.take (k + 1)) nm = none := by
  obtain ⟨hk, rfl⟩ := List.getElem?_eq_some_iff.1 hp
  rw [List.take_succ_eq_append_getElem hk, look_right h, look_miss hn]
  rfl

/-- The place of the first name that is the one asked for: none below k. -/
def missing (ns : List ByteArray) (nm : ByteArray) : Bool := ns.all fun s => !(s.toList == nm.toList)
theorem look_missing {nm : ByteArray} : ∀ {ns vs : List ByteArray}, missing ns nm = true → look (ns.zip vs) nm = none
  | [], _, _ => rfl
  | _ :: _, [], _ => rfl
  | a :: ns, v :: vs, h => by
    simp only [missing, List.all_cons, Bool.and_eq_true, Bool.not_eq_true'] at h
    rw [List.zip_cons_cons, look_miss h.1]
    exact look_missing (by simpa [missing] using h.2)

/-- Cut at k: the two halves' pairs are the pairs. -/
theorem zip_cut (ns vs : List ByteArray) (k : Nat) : ns.zip vs = (ns.take k).zip (vs.take k) ++ (ns.drop k).zip (vs.drop k) := by
  unfold List.zip
  rw [← List.take_zipWith, ← List.drop_zipWith, List.take_append_drop]

theorem zip_min (ns vs : List ByteArray) (n : Nat) (h : n = min ns.length vs.length) : (ns.take n).zip (vs.take n) = ns.zip vs := by
  unfold List.zip
  rw [← List.take_zipWith, List.take_of_length_le (by rw [List.length_zipWith]; omega)]
end Go.Proofs.Qxb6608963a
