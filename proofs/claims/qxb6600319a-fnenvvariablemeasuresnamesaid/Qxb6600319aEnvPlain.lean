/-
  The plain functions behind envVariable and its model, with no Go in sight, and their laws.
-/
namespace Go.Proofs.Qxb6600319a

/-- A letter or an underscore. -/
def nsB (n : Nat) : Bool := decide (n = 95 ∨ (97 ≤ n ∧ n ≤ 122) ∨ (65 ≤ n ∧ n ≤ 90))
/-- A letter, an underscore or a digit. -/
def nbB (n : Nat) : Bool := nsB n || decide (48 ≤ n ∧ n ≤ 57)

/-- A letter or _, then letters, digits and _s. -/
def isNm : List UInt8 → Bool
  | [] => false
  | c :: t => nsB c.toNat && t.all (fun d => nbB d.toNat)

/-- The scan of envVariable, from place k on. -/
def ev : List UInt8 → Nat → Nat
  | [], _ => 0
  | c :: t, k => if c.toNat = 125 ∧ 2 < k then k + 1 else if nsB c.toNat = true ∨ (2 < k ∧ nbB c.toNat = true) then ev t (k + 1) else 0

/-- The text opens with a dollar and a brace. -/
def hd (l : List UInt8) : Bool := match l with
  | a :: b :: _ => a.toNat == 36 && b.toNat == 123
  | _ => false

def env (l : List UInt8) : Nat := if hd l then ev (l.drop 2) 2 else 0

/-- The place of the first closing brace, from place k on. -/
def fb : List UInt8 → Nat → Option Nat
  | [], _ => none
  | c :: t, k => if c.toNat = 125 then some k else fb t (k + 1)

def mdl (l : List UInt8) : Nat := if hd l then (match fb (l.drop 2) 2 with | none => 0 | some b => if isNm ((l.take b).drop 2) then b + 1 else 0) else 0

theorem fb_some : ∀ (t : List UInt8) (k b : Nat), fb t k = some b → ∃ u r c, t = u ++ c :: r ∧ c.toNat = 125 ∧ (∀ d ∈ u, d.toNat ≠ 125) ∧ b = k + u.length
  | [], k, b, h => by simp [fb] at h
  | c :: t, k, b, h => by
    by_cases hc : c.toNat = 125
    · simp [fb, hc] at h
      exact ⟨[], t, c, rfl, hc, by simp, by simp; omega⟩
    · simp [fb, hc] at h
      obtain ⟨u, r, d, e1, e2, e3, e4⟩ := fb_some t (k + 1) b h
      refine ⟨c :: u, r, d, by rw [e1]; rfl, e2, ?_, by simp; omega⟩
      intro x hx
      rcases List.mem_cons.1 hx with rfl | hx
      · exact hc
      · exact e3 x hx

theorem fb_none : ∀ (t : List UInt8) (k : Nat), fb t k = none → ∀ d ∈ t, d.toNat ≠ 125
  | [], k, h => by simp
  | c :: t, k, h => by
    by_cases hc : c.toNat = 125
    · simp [fb, hc] at h
    · simp [fb, hc] at h
      intro x hx
      rcases List.mem_cons.1 hx with rfl | hx
      · exact hc
      · exact fb_none t (k + 1) h x hx

theorem ev_none : ∀ (t : List UInt8) (k : Nat), (∀ d ∈ t, d.toNat ≠ 125) → ev t k = 0
  | [], k, _ => rfl
  | c :: t, k, h => by
    have hc : c.toNat ≠ 125 := h c (by simp)
    have ih := ev_none t (k + 1) (fun d hd => h d (by simp [hd]))
    simp only [ev, hc, false_and, if_false, ih]
    split <;> rfl

theorem ev_brace : ∀ (u r : List UInt8) (c : UInt8) (k : Nat), 2 < k → c.toNat = 125 → (∀ d ∈ u, d.toNat ≠ 125) → ev (u ++ c :: r) k = if u.all (fun d => nbB d.toNat) then k + u.length + 1 else 0
  | [], r, c, k, hk, hc, _ => by simp [ev, hc, hk]
  | x :: u, r, c, k, hk, hc, h => by
    have hx : x.toNat ≠ 125 := h x (by simp)
    have ih := ev_brace u r c (k + 1) (by omega) hc (fun d hd => h d (by simp [hd]))
    simp only [List.cons_append, ev, hx, false_and, if_false, ih]
    by_cases hb : nbB x.toNat = true
    · rw [if_pos (Or.inr ⟨hk, hb⟩)]
      simp only [List.all_cons, hb, Bool.true_and, List.length_cons]
      split <;> omega
    · have hb' : nbB x.toNat = false := by simpa using hb
      have hs : nsB x.toNat = false := by
        unfold nbB at hb'
        simp at hb'
        exact hb'.1
      rw [if_neg (by simp [hs, hb'])]
      simp [hb']

theorem ev_two (t : List UInt8) : ev t 2 = match t with | [] => 0 | c :: u => if nsB c.toNat then ev u 3 else 0 := by
  cases t with
  | nil => rfl
  | cons c u => simp [ev]

theorem nsB_brace : nsB 125 = false := by decide

/-- The scan answers as the model does. -/
theorem env_mdl (l : List UInt8) : env l = mdl l := by
  unfold env mdl
  by_cases hh : hd l = true
  · simp only [hh, if_true]
    match l, hh with
    | a :: b :: t, _ =>
      simp only [List.drop_succ_cons, List.drop_zero]
      cases hf : fb t 2 with
      | none =>
        have := fb_none t 2 hf
        simp [ev_none t 2 this]
      | some n =>
        obtain ⟨u, r, c, e1, e2, e3, e4⟩ := fb_some t 2 n hf
        have ht : List.drop 2 (List.take n (a :: b :: t)) = u := by
          rw [e4, e1]
          have : 2 + u.length = u.length + 2 := by omega
          rw [this]
          simp
        simp only [ht, ev_two]
        cases u with
        | nil =>
          simp at e1
          subst e1
          simp [isNm, e2, nsB_brace]
        | cons x u =>
          subst e1
          simp only [List.cons_append, isNm]
          by_cases hx : nsB x.toNat = true
          · simp only [hx, Bool.true_and, if_true]
            rw [ev_brace u r c 3 (by omega) e2 (fun d hd => e3 d (by simp [hd]))]
            simp only [List.length_cons] at e4
            split <;> omega
          · have hx' : nsB x.toNat = false := by simpa using hx
            simp [hx']
  · have hh' : hd l = false := by simpa using hh
    simp [hh']

theorem nb_ne (n : Nat) (h : nbB n = true) : n ≠ 125 := by
  rintro rfl
  revert h
  decide

/-! A name between dollar-brace and brace, and its three refusals. -/
theorem isNm_cons {l : List UInt8} (h : isNm l = true) : ∃ c t, l = c :: t ∧ nsB c.toNat = true ∧ t.all (fun d => nbB d.toNat) = true := by
  match l, h with
  | c :: t, h =>
    simp only [isNm, Bool.and_eq_true] at h
    exact ⟨c, t, rfl, h.1, h.2⟩

theorem env_hd (t : List UInt8) : env (36 :: 123 :: t) = ev t 2 := by
  have e : hd (36 :: 123 :: t) = true := rfl
  simp only [env, e, if_true]
  rfl

theorem env_closed (l r : List UInt8) (h : isNm l = true) : env (36 :: 123 :: (l ++ 125 :: r)) = l.length + 3 := by
  obtain ⟨c, t, rfl, h1, h2⟩ := isNm_cons h
  simp only [env_hd, List.cons_append, ev_two, h1, if_true]
  rw [ev_brace t r 125 3 (by omega) rfl (fun d hd => nb_ne _ (List.all_eq_true.1 h2 d hd)), h2]
  simp; omega

theorem env_open (l : List UInt8) (h : isNm l = true) : env (36 :: 123 :: l) = 0 := by
  obtain ⟨c, t, rfl, h1, h2⟩ := isNm_cons h
  simp only [env_hd, ev_two, h1, if_true]
  exact ev_none t 3 (fun d hd => nb_ne _ (List.all_eq_true.1 h2 d hd))

theorem env_digit (r : List UInt8) : env (36 :: 123 :: 57 :: r) = 0 := by
  have e2 : nsB (57 : UInt8).toNat = false := by decide
  simp only [env_hd, ev_two, e2]
  rfl

theorem ev_dash : ∀ (u r : List UInt8) (k : Nat), 2 < k → u.all (fun d => nbB d.toNat) = true → ev (u ++ 45 :: r) k = 0
  | [], r, k, hk, _ => by
    have e1 : nsB (45 : UInt8).toNat = false := by decide
    have e2 : nbB (45 : UInt8).toNat = false := by decide
    have e3 : (45 : UInt8).toNat ≠ 125 := by decide
    simp only [List.nil_append, ev, e1, e2, e3, false_and, if_false]
    simp
  | x :: u, r, k, hk, h => by
    simp only [List.all_cons, Bool.and_eq_true] at h
    have ih := ev_dash u r (k + 1) (by omega) h.2
    simp only [List.cons_append, ev, nb_ne _ h.1, false_and, if_false, ih]
    split <;> rfl

theorem env_dash (l r : List UInt8) (h : isNm l = true) : env (36 :: 123 :: (l ++ 45 :: r)) = 0 := by
  obtain ⟨c, t, rfl, h1, h2⟩ := isNm_cons h
  simp only [env_hd, List.cons_append, ev_two, h1, if_true]
  exact ev_dash t r 3 (by omega) h2

theorem isNm_all {c : UInt8} {t : List UInt8} (h1 : nsB c.toNat = true) (h2 : ∀ d ∈ t, nbB d.toNat = true) : isNm (c :: t) = true := by
  simp only [isNm, h1, Bool.true_and, List.all_eq_true]
  exact h2

theorem isNm_snoc (l : List UInt8) (c : UInt8) (h : l ≠ []) : isNm (l ++ [c]) = (isNm l && nbB c.toNat) := by
  match l, h with
  | d :: t, _ => simp [isNm, Bool.and_assoc]

theorem isNm_cut (l r : List UInt8) (hl : l ≠ []) (h : isNm l = false) : isNm (l ++ r) = false := by
  match l, hl, h with
  | d :: t, _, h =>
    simp only [List.cons_append, isNm, List.all_append] at h ⊢
    rw [← Bool.and_assoc, h]
    rfl

theorem isNm_take (l : List UInt8) (k : Nat) (hk : k < l.length) (h1 : 1 ≤ k) : isNm (l.take (k + 1)) = (isNm (l.take k) && nbB l[k].toNat) := by
  rw [List.take_succ_eq_append_getElem hk, isNm_snoc]
  intro e
  have := congrArg List.length e
  rw [List.length_take] at this
  simp only [List.length_nil] at this
  omega

theorem isNm_fail (l : List UInt8) (k : Nat) (hk : k < l.length) (h1 : 1 ≤ k) (h : nbB l[k].toNat = false) : isNm l = false := by
  rw [← List.take_append_drop (k + 1) l]
  apply isNm_cut
  · intro e
    have := congrArg List.length e
    rw [List.length_take] at this
    simp only [List.length_nil] at this
    omega
  · rw [isNm_take l k hk h1, h]; simp

theorem ev_drop (l : List UInt8) (k : Nat) (hk : k < l.length) : ev (l.drop k) k = if l[k].toNat = 125 ∧ 2 < k then k + 1 else if nsB l[k].toNat = true ∨ (2 < k ∧ nbB l[k].toNat = true) then ev (l.drop (k + 1)) (k + 1) else 0 := by
  rw [List.drop_eq_getElem_cons hk]
  rfl

theorem fb_drop (l : List UInt8) (k : Nat) (hk : k < l.length) : fb (l.drop k) k = if l[k].toNat = 125 then some k else fb (l.drop (k + 1)) (k + 1) := by
  rw [List.drop_eq_getElem_cons hk]
  rfl

theorem hd_two (l : List UInt8) (h : 2 ≤ l.length) : hd l = (l[0].toNat == 36 && l[1].toNat == 123) := by
  match l, h with
  | a :: b :: t, _ => rfl

theorem hd_short (l : List UInt8) (h : l.length < 2) : hd l = false := by
  match l, h with
  | [], _ => rfl
  | [a], _ => rfl

end Go.Proofs.Qxb6600319a
