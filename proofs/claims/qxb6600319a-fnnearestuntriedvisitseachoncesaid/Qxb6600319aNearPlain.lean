/-
  The plain side of nearestUntried: what an answer must be ('Near'), that it is one alone, and what marking the answers one after another comes to.
-/
namespace Go.Proofs.Qxb6600319a

/-- What the nearest untried index is: ends by 'Z', tried by 'B', n ends, from 'lo' on, the offset 'pt'. -/
def Near (Z : Nat → Int) (B : Nat → Bool) (n lo : Nat) (pt r : Int) : Prop :=
  (r = -1 ∧ ∀ j, lo ≤ j → j < n → B j = true) ∨
  (∃ i : Nat, r = (i : Int) ∧ lo ≤ i ∧ i < n ∧ B i = false ∧
    ((Z i < pt ∧ ∀ j, i < j → j < n → Z j < pt → B j = true) ∨
     (pt ≤ Z i ∧ (∀ j, lo ≤ j → j < n → Z j < pt → B j = true) ∧ (∀ j, lo ≤ j → j < i → pt ≤ Z j → B j = true))))

theorem near_one {Z : Nat → Int} {B : Nat → Bool} {n lo : Nat} {pt r r' : Int} (h : Near Z B n lo pt r) (h' : Near Z B n lo pt r') : r = r' := by
  rcases h with ⟨rfl, ha⟩ | ⟨i, rfl, hi1, hi2, hi3, hi⟩
  · rcases h' with ⟨rfl, _⟩ | ⟨j, rfl, hj1, hj2, hj3, _⟩
    · rfl
    · rw [ha j hj1 hj2] at hj3; cases hj3
  · rcases h' with ⟨rfl, ha⟩ | ⟨j, rfl, hj1, hj2, hj3, hj⟩
    · rw [ha i hi1 hi2] at hi3; cases hi3
    · have : i = j := by
        rcases Nat.lt_trichotomy i j with hlt | rfl | hlt
        · exfalso
          rcases hi with ⟨a1, a2⟩ | ⟨a1, a2, a3⟩
          · rcases hj with ⟨b1, b2⟩ | ⟨b1, b2, b3⟩
            · rw [a2 j hlt hj2 b1] at hj3; cases hj3
            · rw [b2 i hi1 hi2 a1] at hi3; cases hi3
          · rcases hj with ⟨b1, b2⟩ | ⟨b1, b2, b3⟩
            · rw [a2 j hj1 hj2 b1] at hj3; cases hj3
            · rw [b3 i hi1 hlt a1] at hi3; cases hi3
        · rfl
        · exfalso
          rcases hi with ⟨a1, a2⟩ | ⟨a1, a2, a3⟩
          · rcases hj with ⟨b1, b2⟩ | ⟨b1, b2, b3⟩
            · rw [b2 i hlt hi2 a1] at hi3; cases hi3
            · rw [b2 i hi1 hi2 a1] at hi3; cases hi3
          · rcases hj with ⟨b1, b2⟩ | ⟨b1, b2, b3⟩
            · rw [a2 j hj1 hj2 b1] at hj3; cases hj3
            · rw [a3 j hj1 hlt b1] at hj3; cases hj3
      rw [this]

/-! ### The two loops of nearestUntried, a split given -/
theorem near_down {Z : Nat → Int} {B : Nat → Bool} {n lo sp m : Nat} {pt : Int} (h1 : ∀ j, j < sp → Z j < pt) (h2 : ∀ j, sp ≤ j → j < n → pt ≤ Z j) (hsp : sp ≤ n) (hm : m < sp) (hlo : lo ≤ m)
    (hs : ∀ j, m < j → j < sp → B j = true) (hb : B m = false) : Near Z B n lo pt m := by
  refine Or.inr ⟨m, rfl, hlo, by omega, hb, Or.inl ⟨h1 m hm, ?_⟩⟩
  intro j hj hjn hz
  apply hs j hj
  rcases Nat.lt_or_ge j sp with h | h
  · exact h
  · have := h2 j h hjn; omega

theorem near_up {Z : Nat → Int} {B : Nat → Bool} {n lo sp k : Nat} {pt : Int} (h2 : ∀ j, sp ≤ j → j < n → pt ≤ Z j) (hk : k < n) (hsp : sp ≤ k) (hlo : lo ≤ k)
    (hs : ∀ j, lo ≤ j → j < k → B j = true) (hb : B k = false) : Near Z B n lo pt k := by
  refine Or.inr ⟨k, rfl, hlo, hk, hb, Or.inr ⟨h2 k hsp hk, ?_, fun j a b _ => hs j a b⟩⟩
  intro j hj hjn hz
  apply hs j hj
  rcases Nat.lt_or_ge j k with h | h
  · exact h
  · have := h2 j (by omega) hjn; omega

theorem near_none {Z : Nat → Int} {B : Nat → Bool} {n lo k : Nat} {pt : Int} (hk : n ≤ k) (hs : ∀ j, lo ≤ j → j < k → B j = true) : Near Z B n lo pt (-1) :=
  Or.inl ⟨rfl, fun j a b => hs j a (by omega)⟩

/-! ### The model's scan -/
/-- What 'before' and 'after' hold when the indices below k are scanned. -/
def Scan (Z : Nat → Int) (B : Nat → Bool) (lo k : Nat) (pt b a : Int) : Prop :=
  ((b = -1 ∧ ∀ j, lo ≤ j → j < k → Z j < pt → B j = true) ∨ (∃ i : Nat, b = (i : Int) ∧ lo ≤ i ∧ i < k ∧ B i = false ∧ Z i < pt ∧ ∀ j, i < j → j < k → Z j < pt → B j = true)) ∧
  ((a = -1 ∧ ∀ j, lo ≤ j → j < k → pt ≤ Z j → B j = true) ∨ (∃ i : Nat, a = (i : Int) ∧ lo ≤ i ∧ i < k ∧ B i = false ∧ pt ≤ Z i ∧ ∀ j, lo ≤ j → j < i → pt ≤ Z j → B j = true))

theorem scan_start (Z : Nat → Int) (B : Nat → Bool) (lo : Nat) (pt : Int) : Scan Z B lo lo pt (-1) (-1) :=
  ⟨Or.inl ⟨rfl, fun j a b => by omega⟩, Or.inl ⟨rfl, fun j a b => by omega⟩⟩

theorem scan_bd {Z : Nat → Int} {B : Nat → Bool} {lo k : Nat} {pt b a : Int} (h : Scan Z B lo k pt b a) : -1 ≤ b ∧ b < k ∧ -1 ≤ a ∧ a < k := by
  obtain ⟨hb, ha⟩ := h
  rcases hb with ⟨rfl, _⟩ | ⟨i, rfl, _, h1, _⟩ <;> rcases ha with ⟨rfl, _⟩ | ⟨j, rfl, _, h2, _⟩ <;> refine ⟨?_, ?_, ?_, ?_⟩ <;> omega

theorem scan_tried {Z : Nat → Int} {B : Nat → Bool} {lo k : Nat} {pt b a : Int} (h : Scan Z B lo k pt b a) (hb : B k = true) : Scan Z B lo (k + 1) pt b a := by
  obtain ⟨h1, h2⟩ := h
  have key : ∀ j, j < k + 1 → j < k ∨ j = k := fun j hj => by omega
  refine ⟨?_, ?_⟩
  · rcases h1 with ⟨e, g⟩ | ⟨i, e, g1, g2, g3, g4, g5⟩
    · exact Or.inl ⟨e, fun j x y z => by rcases key j y with h | rfl; exact g j x h z; exact hb⟩
    · exact Or.inr ⟨i, e, g1, by omega, g3, g4, fun j x y z => by rcases key j y with h | rfl; exact g5 j x h z; exact hb⟩
  · rcases h2 with ⟨e, g⟩ | ⟨i, e, g1, g2, g3, g4, g5⟩
    · exact Or.inl ⟨e, fun j x y z => by rcases key j y with h | rfl; exact g j x h z; exact hb⟩
    · exact Or.inr ⟨i, e, g1, by omega, g3, g4, g5⟩

theorem scan_before {Z : Nat → Int} {B : Nat → Bool} {lo k : Nat} {pt b a : Int} (h : Scan Z B lo k pt b a) (hk : lo ≤ k) (hb : B k = false) (hz : Z k < pt) : Scan Z B lo (k + 1) pt k a := by
  obtain ⟨h1, h2⟩ := h
  refine ⟨Or.inr ⟨k, rfl, hk, by omega, hb, hz, fun j x y z => by omega⟩, ?_⟩
  rcases h2 with ⟨e, g⟩ | ⟨i, e, g1, g2, g3, g4, g5⟩
  · refine Or.inl ⟨e, fun j x y z => ?_⟩
    rcases Nat.lt_or_ge j k with h | h
    · exact g j x h z
    · obtain rfl : j = k := by omega
      omega
  · exact Or.inr ⟨i, e, g1, by omega, g3, g4, g5⟩

theorem scan_skip {Z : Nat → Int} {B : Nat → Bool} {lo k : Nat} {pt b a : Int} (h : Scan Z B lo k pt b a) (hz : pt ≤ Z k) (ha : 0 ≤ a) : Scan Z B lo (k + 1) pt b a := by
  obtain ⟨h1, h2⟩ := h
  have key : ∀ j, j < k + 1 → Z j < pt → j < k := fun j hj hzj => by
    rcases Nat.lt_or_ge j k with h | h
    · exact h
    · obtain rfl : j = k := by omega
      omega
  refine ⟨?_, ?_⟩
  · rcases h1 with ⟨e, g⟩ | ⟨i, e, g1, g2, g3, g4, g5⟩
    · exact Or.inl ⟨e, fun j x y z => g j x (key j y z) z⟩
    · exact Or.inr ⟨i, e, g1, by omega, g3, g4, fun j x y z => g5 j x (key j y z) z⟩
  · rcases h2 with ⟨e, g⟩ | ⟨i, e, g1, g2, g3, g4, g5⟩
    · omega
    · exact Or.inr ⟨i, e, g1, by omega, g3, g4, g5⟩

theorem scan_after {Z : Nat → Int} {B : Nat → Bool} {lo k : Nat} {pt b a : Int} (h : Scan Z B lo k pt b a) (hk : lo ≤ k) (hb : B k = false) (hz : pt ≤ Z k) (ha : a < 0) : Scan Z B lo (k + 1) pt b k := by
  obtain ⟨h1, h2⟩ := h
  have key : ∀ j, j < k + 1 → Z j < pt → j < k := fun j hj hzj => by
    rcases Nat.lt_or_ge j k with h | h
    · exact h
    · obtain rfl : j = k := by omega
      omega
  refine ⟨?_, ?_⟩
  · rcases h1 with ⟨e, g⟩ | ⟨i, e, g1, g2, g3, g4, g5⟩
    · exact Or.inl ⟨e, fun j x y z => g j x (key j y z) z⟩
    · exact Or.inr ⟨i, e, g1, by omega, g3, g4, fun j x y z => g5 j x (key j y z) z⟩
  · rcases h2 with ⟨e, g⟩ | ⟨i, e, g1, g2, g3, g4, g5⟩
    · exact Or.inr ⟨k, rfl, hk, by omega, hb, hz, g⟩
    · omega

theorem scan_done {Z : Nat → Int} {B : Nat → Bool} {lo n : Nat} {pt b a : Int} (h : Scan Z B lo n pt b a) : Near Z B n lo pt (if 0 ≤ b then b else a) := by
  obtain ⟨h1, h2⟩ := h
  rcases h1 with ⟨rfl, g⟩ | ⟨i, rfl, g1, g2, g3, g4, g5⟩
  · rw [if_neg (by omega)]
    rcases h2 with ⟨rfl, g'⟩ | ⟨i, rfl, g1, g2, g3, g4, g5⟩
    · refine Or.inl ⟨rfl, fun j x y => ?_⟩
      rcases Int.lt_or_le (Z j) pt with hz | hz
      · exact g j x y hz
      · exact g' j x y hz
    · exact Or.inr ⟨i, rfl, g1, g2, g3, Or.inr ⟨g4, g, g5⟩⟩
  · rw [if_pos (by omega)]
    exact Or.inr ⟨i, rfl, g1, g2, g3, Or.inl ⟨g4, g5⟩⟩

/-! ### Marking the answers one after another -/
/-- How many of the indices from 'lo' up to n are untried. -/
def U (B : Nat → Bool) (lo : Nat) : Nat → Nat
  | 0 => 0
  | n + 1 => U B lo n + (if lo ≤ n ∧ B n = false then 1 else 0)

theorem U_le (B : Nat → Bool) (lo : Nat) : ∀ n, U B lo n ≤ n
  | 0 => Nat.le_refl _
  | n + 1 => by have := U_le B lo n; simp only [U]; split <;> omega

theorem U_low (B : Nat → Bool) (lo : Nat) : ∀ n, n ≤ lo → U B lo n = 0
  | 0, _ => rfl
  | n + 1, h => by simp only [U, U_low B lo n (by omega)]; rw [if_neg (by omega)]

def mark (B : Nat → Bool) (i : Nat) : Nat → Bool := fun j => if j = i then true else B j

theorem U_mark_out (B : Nat → Bool) (lo i : Nat) : ∀ n, n ≤ i → U (mark B i) lo n = U B lo n
  | 0, _ => rfl
  | n + 1, h => by
    have e : mark B i n = B n := by simp only [mark]; rw [if_neg (by omega)]
    simp only [U, U_mark_out B lo i n (by omega), e]

theorem U_mark (B : Nat → Bool) (lo i : Nat) (hlo : lo ≤ i) (hb : B i = false) : ∀ n, i < n → U (mark B i) lo n + 1 = U B lo n
  | 0, h => by omega
  | n + 1, h => by
    by_cases hn : i = n
    · subst hn
      have e : mark B i i = true := by simp [mark]
      simp only [U, U_mark_out B lo i i (Nat.le_refl _), e]
      rw [if_neg (by simp), if_pos ⟨hlo, hb⟩]
    · have ih := U_mark B lo i hlo hb n (by omega)
      have e : mark B i n = B n := by simp only [mark]; rw [if_neg (by omega)]
      simp only [U, e]
      omega

theorem U_none (B : Nat → Bool) (lo : Nat) : ∀ n, (∀ j, lo ≤ j → j < n → B j = true) → U B lo n = 0
  | 0, _ => rfl
  | n + 1, h => by
    simp only [U, U_none B lo n (fun j a b => h j a (by omega))]
    split
    · rename_i hh
      have := h n hh.1 (by omega)
      rw [this] at hh
      exact absurd hh.2 (by simp)
    · rfl

/-- What holds between two answers: 'p' the last answer (or -1), 'ap' whether one at or above 'pt' has been given. -/
def Ord (Z : Nat → Int) (B : Nat → Bool) (n lo : Nat) (pt p : Int) (ap : Bool) : Prop :=
  (ap = false ∧ (p = -1 ∨ ∀ j : Nat, lo ≤ j → j < n → Z j < pt → B j = false → (j : Int) < p)) ∨
  (ap = true ∧ (∀ j, lo ≤ j → j < n → Z j < pt → B j = true) ∧ ∀ j : Nat, lo ≤ j → j < n → pt ≤ Z j → B j = false → p < (j : Int))

theorem ord_start (Z : Nat → Int) (B : Nat → Bool) (n lo : Nat) (pt : Int) : Ord Z B n lo pt (-1) false := Or.inl ⟨rfl, Or.inl rfl⟩

/-- The answer -1 comes when none is left. -/
theorem near_stop {Z : Nat → Int} {B : Nat → Bool} {n lo : Nat} {pt : Int} (h : Near Z B n lo pt (-1)) : U B lo n = 0 := by
  rcases h with ⟨_, ha⟩ | ⟨i, e, _⟩
  · exact U_none B lo n ha
  · omega

/-- An answer below 'pt': none at or above it has been given; it lies below the last. -/
theorem near_low {Z : Nat → Int} {B : Nat → Bool} {n lo i : Nat} {pt p : Int} {ap : Bool} (h : Near Z B n lo pt i) (ho : Ord Z B n lo pt p ap) (hz : Z i < pt) :
    ap = false ∧ (p = -1 ∨ (i : Int) < p) ∧ Ord Z (mark B i) n lo pt i false := by
  rcases h with ⟨e, _⟩ | ⟨i', e, h1, h2, h3, hc⟩
  · omega
  · obtain rfl : i = i' := by omega
    have hc' : ∀ j, i < j → j < n → Z j < pt → B j = true := by
      rcases hc with ⟨_, g⟩ | ⟨g, _⟩
      · exact g
      · omega
    have hap : ap = false ∧ (p = -1 ∨ (i : Int) < p) := by
      rcases ho with ⟨a, b⟩ | ⟨a, b, _⟩
      · refine ⟨a, ?_⟩
        rcases b with b | b
        · exact Or.inl b
        · exact Or.inr (b i h1 h2 hz h3)
      · rw [b i h1 h2 hz] at h3; cases h3
    refine ⟨hap.1, hap.2, Or.inl ⟨rfl, Or.inr ?_⟩⟩
    intro j x y z hb
    by_cases hj : j = i
    · subst hj; simp [mark] at hb
    · simp only [mark, if_neg hj] at hb
      rcases Nat.lt_or_ge j i with hl | hl
      · omega
      · rw [hc' j (by omega) y z] at hb; cases hb

/-- An answer at or above 'pt': it lies above the last such. -/
theorem near_high {Z : Nat → Int} {B : Nat → Bool} {n lo i : Nat} {pt p : Int} {ap : Bool} (h : Near Z B n lo pt i) (ho : Ord Z B n lo pt p ap) (hz : pt ≤ Z i) :
    (ap = true → p < (i : Int)) ∧ Ord Z (mark B i) n lo pt i true := by
  rcases h with ⟨e, _⟩ | ⟨i', e, h1, h2, h3, hc⟩
  · omega
  · obtain rfl : i = i' := by omega
    have hc' : (∀ j, lo ≤ j → j < n → Z j < pt → B j = true) ∧ (∀ j, lo ≤ j → j < i → pt ≤ Z j → B j = true) := by
      rcases hc with ⟨g, _⟩ | ⟨_, g1, g2⟩
      · omega
      · exact ⟨g1, g2⟩
    refine ⟨?_, Or.inr ⟨rfl, ?_, ?_⟩⟩
    · intro ht
      rcases ho with ⟨a, _⟩ | ⟨_, _, c⟩
      · rw [ht] at a; cases a
      · exact c i h1 h2 hz h3
    · intro j x y z
      simp only [mark]
      split
      · rfl
      · exact hc'.1 j x y z
    · intro j x y z hb
      by_cases hj : j = i
      · subst hj; simp [mark] at hb
      · simp only [mark, if_neg hj] at hb
        rcases Nat.lt_or_ge j i with hl | hl
        · rw [hc'.2 j x hl z] at hb; cases hb
        · omega

theorem near_idx {Z : Nat → Int} {B : Nat → Bool} {n lo : Nat} {pt r : Int} (h : Near Z B n lo pt r) : r = -1 ∨ ∃ i : Nat, r = (i : Int) ∧ lo ≤ i ∧ i < n ∧ B i = false := by
  rcases h with ⟨e, _⟩ | ⟨i, e, h1, h2, h3, _⟩
  · exact Or.inl e
  · exact Or.inr ⟨i, e, h1, h2, h3⟩

/-! ### The split of a sorted list -/
theorem count_split (l : List Int) (pt : Int) (hs : l.Pairwise (· ≤ ·)) : (∀ j (h : j < l.length), j < l.countP (· < pt) → l[j] < pt) ∧ (∀ j (h : j < l.length), l.countP (· < pt) ≤ j → pt ≤ l[j]) := by
  induction l with
  | nil => exact ⟨fun j h => by simp at h, fun j h => by simp at h⟩
  | cons x t ih =>
    obtain ⟨h1, h2⟩ := List.pairwise_cons.1 hs
    obtain ⟨i1, i2⟩ := ih h2
    by_cases hx : x < pt
    · have e : (x :: t).countP (· < pt) = t.countP (· < pt) + 1 := by simp [hx]
      rw [e]
      refine ⟨fun j h hj => ?_, fun j h hj => ?_⟩
      · match j, h, hj with
        | 0, _, _ => exact hx
        | j + 1, h, hj => exact i1 j (by simpa using h) (by omega)
      · match j, h, hj with
        | 0, _, hj => omega
        | j + 1, h, hj => exact i2 j (by simpa using h) (by omega)
    · have z : t.countP (· < pt) = 0 := by
        rw [List.countP_eq_zero]
        intro y hy
        have := h1 y hy
        simp; omega
      have e : (x :: t).countP (· < pt) = 0 := by simp [hx, z]
      rw [e]
      refine ⟨fun j h hj => by omega, fun j h _ => ?_⟩
      match j, h with
      | 0, _ => show pt ≤ x; omega
      | j + 1, h => exact i2 j (by simpa using h) (by omega)

theorem sorted_of (Z : Nat → Int) (n : Nat) (h : ∀ i, i + 1 < n → Z i ≤ Z (i + 1)) : ((List.range n).map Z).Pairwise (· ≤ ·) := by
  have mono : ∀ d i, i + d < n → Z i ≤ Z (i + d) := by
    intro d
    induction d with
    | zero => intro i _; exact Int.le_refl _
    | succ d ih =>
      intro i hi
      have a := ih i (by omega)
      have b := h (i + d) (by omega)
      show Z i ≤ Z (i + d + 1)
      omega
  rw [List.pairwise_iff_getElem]
  intro i j hi hj hij
  simp only [List.length_map, List.length_range] at hi hj
  simp only [List.getElem_map, List.getElem_range]
  have := mono (j - i) i (by omega)
  rw [show i + (j - i) = j from by omega] at this
  exact this

end Go.Proofs.Qxb6600319a
