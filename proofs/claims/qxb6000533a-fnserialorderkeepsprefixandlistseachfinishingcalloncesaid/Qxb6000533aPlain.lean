/-
  The plain side of serialOrder: lists of positions that hold each marked position once and no other.
-/
namespace Go.Proofs.Qxb6000533a

/-- The positions 'app' lie below m, and hold each position that f marks once and no other. -/
def Lst (m : Nat) (app : List Int) (f : Nat → Bool) : Prop :=
  (∀ e ∈ app, ∃ j : Nat, j < m ∧ e = (j : Int)) ∧ ∀ j : Nat, j < m → app.count (j : Int) = if f j then 1 else 0

theorem lst_nil (m : Nat) : Lst m [] (fun _ => false) := ⟨fun e h => by simp at h, fun j _ => by simp⟩

theorem lst_eq {m : Nat} {app : List Int} {f g : Nat → Bool} (h : Lst m app f) (e : ∀ j, j < m → f j = g j) : Lst m app g :=
  ⟨h.1, fun j hj => by rw [h.2 j hj, e j hj]⟩

theorem lst_add {m i : Nat} {app : List Int} {f : Nat → Bool} (h : Lst m app f) (hi : i < m) (hf : f i = false) : Lst m (app ++ [(i : Int)]) (fun j => f j || decide (j = i)) := by
  refine ⟨fun e he => ?_, fun j hj => ?_⟩
  · rcases List.mem_append.1 he with h' | h'
    · exact h.1 e h'
    · simp at h'
      exact ⟨i, hi, h'⟩
  · rw [List.count_append, h.2 j hj]
    by_cases e : j = i
    · subst e
      simp [hf]
    · have e' : ¬ ((i : Int) = (j : Int)) := by omega
      have c0 : List.count (j : Int) [(i : Int)] = 0 := by
        rw [List.count_eq_zero]
        simp
        omega
      rw [c0]
      simp [e]

/-- What the four loops mark, one behind the other. -/
def f1 (S : Nat → Int) (k : Nat) : Nat → Bool := fun j => decide (j < k) && decide (S j = 2)
def f2 (S : Nat → Int) (t : Nat) : Nat → Bool := fun j => decide (S j = 2) || (decide (t ≤ j) && decide (S j = 3))
def f3 (S : Nat → Int) (k : Nat) : Nat → Bool := fun j => decide (S j = 2) || decide (S j = 3) || (decide (j < k) && decide (S j = 0))
def f4 (S : Nat → Int) (k : Nat) : Nat → Bool := fun j => decide (S j = 2) || decide (S j = 3) || decide (S j = 0) || (decide (j < k) && decide (S j = 4))
/-- The slot finishes. -/
def fin (x : Int) : Bool := decide (x = 0 ∨ x = 2 ∨ x = 3 ∨ x = 4)

theorem beq_of {a b : Bool} (h : a = true ↔ b = true) : a = b := by
  cases a <;> cases b <;> simp_all

theorem l1_start (S : Nat → Int) (m : Nat) : Lst m [] (f1 S 0) := lst_eq (lst_nil m) (fun j _ => by simp [f1])
theorem l1_hit {S : Nat → Int} {m k : Nat} {app : List Int} (h : Lst m app (f1 S k)) (hk : k < m) (hs : S k = 2) : Lst m (app ++ [(k : Int)]) (f1 S (k + 1)) := by
  refine lst_eq (lst_add h hk (by simp [f1])) (fun j _ => ?_)
  apply beq_of
  simp [f1]
  constructor
  · rintro (⟨a, b⟩ | rfl)
    · exact ⟨by omega, b⟩
    · exact ⟨by omega, hs⟩
  · rintro ⟨a, b⟩
    by_cases e : j = k
    · exact Or.inr e
    · exact Or.inl ⟨by omega, b⟩
theorem l1_miss {S : Nat → Int} {m k : Nat} {app : List Int} (h : Lst m app (f1 S k)) (hs : ¬ S k = 2) : Lst m app (f1 S (k + 1)) := by
  refine lst_eq h (fun j _ => ?_)
  apply beq_of
  simp [f1]
  intro b
  constructor
  · omega
  · intro a
    by_cases e : j = k
    · subst e; exact absurd b hs
    · omega

theorem l2_start {S : Nat → Int} {m : Nat} {app : List Int} (h : Lst m app (f1 S m)) : Lst m app (f2 S m) := by
  refine lst_eq h (fun j hj => ?_)
  apply beq_of
  simp [f1, f2]
  constructor
  · rintro ⟨_, b⟩; exact Or.inl b
  · rintro (b | ⟨a, _⟩)
    · exact ⟨hj, b⟩
    · omega
theorem l2_hit {S : Nat → Int} {m t : Nat} {app : List Int} (h : Lst m app (f2 S (t + 1))) (hk : t < m) (hs : S t = 3) : Lst m (app ++ [(t : Int)]) (f2 S t) := by
  refine lst_eq (lst_add h hk (by simp [f2, hs])) (fun j _ => ?_)
  apply beq_of
  simp [f2]
  constructor
  · rintro ((a | ⟨a, b⟩) | rfl)
    · exact Or.inl a
    · exact Or.inr ⟨by omega, b⟩
    · exact Or.inr ⟨by omega, hs⟩
  · rintro (a | ⟨a, b⟩)
    · exact Or.inl (Or.inl a)
    · by_cases e : j = t
      · exact Or.inr e
      · exact Or.inl (Or.inr ⟨by omega, b⟩)
theorem l2_miss {S : Nat → Int} {m t : Nat} {app : List Int} (h : Lst m app (f2 S (t + 1))) (hs : ¬ S t = 3) : Lst m app (f2 S t) := by
  refine lst_eq h (fun j _ => ?_)
  apply beq_of
  simp [f2]
  constructor
  · rintro (a | ⟨a, b⟩)
    · exact Or.inl a
    · exact Or.inr ⟨by omega, b⟩
  · rintro (a | ⟨a, b⟩)
    · exact Or.inl a
    · by_cases e : j = t
      · subst e; exact absurd b hs
      · exact Or.inr ⟨by omega, b⟩

theorem l3_start {S : Nat → Int} {m : Nat} {app : List Int} (h : Lst m app (f2 S 0)) : Lst m app (f3 S 0) :=
  lst_eq h (fun j _ => by simp [f2, f3])
theorem l3_hit {S : Nat → Int} {m k : Nat} {app : List Int} (h : Lst m app (f3 S k)) (hk : k < m) (hs : S k = 0) : Lst m (app ++ [(k : Int)]) (f3 S (k + 1)) := by
  refine lst_eq (lst_add h hk (by simp [f3, hs])) (fun j _ => ?_)
  apply beq_of
  simp [f3]
  constructor
  · rintro ((a | ⟨a, b⟩) | rfl)
    · exact Or.inl a
    · exact Or.inr ⟨by omega, b⟩
    · exact Or.inr ⟨by omega, hs⟩
  · rintro (a | ⟨a, b⟩)
    · exact Or.inl (Or.inl a)
    · by_cases e : j = k
      · exact Or.inr e
      · exact Or.inl (Or.inr ⟨by omega, b⟩)
theorem l3_miss {S : Nat → Int} {m k : Nat} {app : List Int} (h : Lst m app (f3 S k)) (hs : ¬ S k = 0) : Lst m app (f3 S (k + 1)) := by
  refine lst_eq h (fun j _ => ?_)
  apply beq_of
  simp [f3]
  constructor
  · rintro (a | ⟨a, b⟩)
    · exact Or.inl a
    · exact Or.inr ⟨by omega, b⟩
  · rintro (a | ⟨a, b⟩)
    · exact Or.inl a
    · by_cases e : j = k
      · subst e; exact absurd b hs
      · exact Or.inr ⟨by omega, b⟩

theorem l4_start {S : Nat → Int} {m : Nat} {app : List Int} (h : Lst m app (f3 S m)) : Lst m app (f4 S 0) := by
  refine lst_eq h (fun j hj => ?_)
  apply beq_of
  simp [f3, f4, hj]
theorem l4_hit {S : Nat → Int} {m k : Nat} {app : List Int} (h : Lst m app (f4 S k)) (hk : k < m) (hs : S k = 4) : Lst m (app ++ [(k : Int)]) (f4 S (k + 1)) := by
  refine lst_eq (lst_add h hk (by simp [f4, hs])) (fun j _ => ?_)
  apply beq_of
  simp [f4]
  constructor
  · rintro ((a | ⟨a, b⟩) | rfl)
    · exact Or.inl a
    · exact Or.inr ⟨by omega, b⟩
    · exact Or.inr ⟨by omega, hs⟩
  · rintro (a | ⟨a, b⟩)
    · exact Or.inl (Or.inl a)
    · by_cases e : j = k
      · exact Or.inr e
      · exact Or.inl (Or.inr ⟨by omega, b⟩)
theorem l4_miss {S : Nat → Int} {m k : Nat} {app : List Int} (h : Lst m app (f4 S k)) (hs : ¬ S k = 4) : Lst m app (f4 S (k + 1)) := by
  refine lst_eq h (fun j _ => ?_)
  apply beq_of
  simp [f4]
  constructor
  · rintro (a | ⟨a, b⟩)
    · exact Or.inl a
    · exact Or.inr ⟨by omega, b⟩
  · rintro (a | ⟨a, b⟩)
    · exact Or.inl a
    · by_cases e : j = k
      · subst e; exact absurd b hs
      · exact Or.inr ⟨by omega, b⟩
theorem l4_end {S : Nat → Int} {m : Nat} {app : List Int} (h : Lst m app (f4 S m)) : Lst m app (fun j => fin (S j)) := by
  refine lst_eq h (fun j hj => ?_)
  apply beq_of
  simp [f4, fin, hj]
  omega

end Go.Proofs.Qxb6000533a
