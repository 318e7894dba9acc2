/-
  The plain functions of this seat, with no Go in sight: what reading a quoted string gives ('rd'), what quoting writes ('qt'), and their laws.
-/
namespace Go.Proofs.Qxb6600307a

/-- What reading behind the opening quote gives: the value, and how many bytes were read. -/
def rd : List UInt8 → List UInt8 × Nat
  | [] => ([], 0)
  | [c] => if c = 34 then ([], 1) else ([c], 1)
  | c :: d :: t => if c = 34 then ([], 1) else if c = 92 then (d :: (rd t).1, (rd t).2 + 2) else (c :: (rd (d :: t)).1, (rd (d :: t)).2 + 1)

theorem rd_quote (t : List UInt8) : rd (34 :: t) = ([], 1) := by
  cases t <;> simp [rd]
theorem rd_last : rd [92] = ([92], 1) := by simp [rd]
theorem rd_esc (d : UInt8) (t : List UInt8) : rd (92 :: d :: t) = (d :: (rd t).1, (rd t).2 + 2) := by
  simp [rd]
theorem rd_plain (c : UInt8) (t : List UInt8) (h1 : c ≠ 34) (h2 : c ≠ 92) : rd (c :: t) = (c :: (rd t).1, (rd t).2 + 1) := by
  cases t <;> simp [rd, h1, h2]

/-- What the law asks of any reading. -/
def Good (l : List UInt8) (r : List UInt8 × Nat) : Prop :=
  r.2 ≤ l.length ∧ r.1.length ≤ r.2 ∧ (r.2 < l.length → 1 ≤ r.2 ∧ l[r.2 - 1]? = some 34 ∧ r.1.length + 1 ≤ r.2)

theorem good_rd (n : Nat) : ∀ l : List UInt8, l.length ≤ n → Good l (rd l) := by
  induction n with
  | zero =>
    intro l h
    obtain rfl : l = [] := List.length_eq_zero_iff.1 (by omega)
    simp [Good, rd]
  | succ n ih =>
    intro l h
    match l, h with
    | [], _ => simp [Good, rd]
    | c :: t, h =>
      by_cases h1 : c = 34
      · subst h1; rw [rd_quote]; simp [Good]
      · by_cases h2 : c = 92
        · subst h2
          match t, h with
          | [], _ => rw [rd_last]; simp [Good]
          | d :: t, h =>
            rw [rd_esc]
            have := ih t (by simp at h; omega)
            obtain ⟨a, b, g⟩ := this
            refine ⟨by simp; omega, by simp; omega, ?_⟩
            intro hlt
            simp at hlt
            obtain ⟨g1, g2, g3⟩ := g (by omega)
            refine ⟨by simp, ?_, by simp; omega⟩
            have e : (rd t).2 + 2 - 1 = (rd t).2 - 1 + 2 := by omega
            simp only [e]
            simpa using g2
        · rw [rd_plain c t h1 h2]
          have := ih t (by simp at h; omega)
          obtain ⟨a, b, g⟩ := this
          refine ⟨by simp; omega, by simp; omega, ?_⟩
          intro hlt
          simp at hlt
          obtain ⟨g1, g2, g3⟩ := g (by omega)
          refine ⟨by simp, ?_, by simp; omega⟩
          have e : (rd t).2 + 1 - 1 = (rd t).2 - 1 + 1 := by omega
          simp only [e]
          simpa using g2

/-- Where byte k of the quoting is escaped. -/
def escd (c : UInt8) (x : Option UInt8) : Bool := c == 34 || c == 92 || (match x with | some e => e.toNat % 2 == 1 | none => false)

/-- What quoting writes. -/
def qt : List UInt8 → List UInt8 → List UInt8
  | [], _ => []
  | c :: v, esc => (if escd c esc.head? then [92, c] else [c]) ++ qt v esc.tail

theorem qt_le : ∀ (v esc : List UInt8), (qt v esc).length ≤ 2 * v.length
  | [], _ => by simp [qt]
  | c :: v, esc => by
    have := qt_le v esc.tail
    simp only [qt, List.length_append, List.length_cons]
    split <;> simp <;> omega

/-- Reading back what was quoted: whatever stands behind. -/
theorem rd_qt (r : List UInt8) : ∀ (v esc : List UInt8), rd (qt v esc ++ r) = (v ++ (rd r).1, (qt v esc).length + (rd r).2)
  | [], _ => by simp [qt]
  | c :: v, esc => by
    have ih := rd_qt r v esc.tail
    by_cases h : escd c esc.head? = true
    · simp only [qt, h, if_true, List.cons_append, List.nil_append, rd_esc, ih, List.length_cons]
      simp; omega
    · have h' : escd c esc.head? = false := by simpa using h
      have h1 : c ≠ 34 := by rintro rfl; simp [escd] at h'
      have h2 : c ≠ 92 := by rintro rfl; simp [escd] at h'
      simp only [qt, h', List.cons_append, List.nil_append, Bool.false_eq_true, if_false, rd_plain c _ h1 h2, ih, List.length_cons]
      simp; omega

/-! The quoting as a loop gathers it: the first k bytes. -/
theorem qt_snoc : ∀ (v esc : List UInt8) (c : UInt8), qt (v ++ [c]) esc = qt v esc ++ (if escd c esc[v.length]? then [92, c] else [c])
  | [], esc, c => by simp [qt, List.head?_eq_getElem?]
  | d :: v, esc, c => by
    simp only [List.cons_append, qt, qt_snoc v esc.tail c, List.length_cons, List.append_assoc]
    simp

theorem qt_take (v esc : List UInt8) (k : Nat) (h : k < v.length) : qt (v.take (k + 1)) esc = qt (v.take k) esc ++ (if escd v[k] esc[k]? then [92, v[k]] else [v[k]]) := by
  rw [List.take_succ_eq_append_getElem h, qt_snoc]
  simp [Nat.min_eq_left (Nat.le_of_lt h)]

end Go.Proofs.Qxb6600307a
