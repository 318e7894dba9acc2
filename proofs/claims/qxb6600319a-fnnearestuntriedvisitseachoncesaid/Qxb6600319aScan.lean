/-
  The walk of FnNearestUntriedMatchesScan.
-/
import Derived.Test.Qxb6600319aClone
import Derived.WalkSmall
namespace Go.Proofs.Qxb6600319a
open Go.RowKit

theorem ret_t {b : Bool} (h : b = true) : Ending.returned (.bool b) = .returned (.bool true) := by rw [h]

/-! ### What is known of the two slices, carried from world to world -/
theorem InI.below {w w' : World} {a : Option Addr} {n c : Nat} {Z : Nat → Int} (h : InI w a n c Z) (hb : Below w.heap.size w w') : InI w' a n c Z := by
  rcases h with h | ⟨h1, h2⟩
  · exact Or.inl h
  · refine Or.inr ⟨h1, fun hn => ?_⟩
    obtain ⟨b, o, e, hlt, hc⟩ := h2 hn
    exact ⟨b, o, e, Nat.lt_of_lt_of_le hlt hb.size, fun j hj => (hb.cell (p := ⟨b, o + j, none⟩) hlt).trans (hc j hj)⟩
theorem InB.below {w w' : World} {a : Option Addr} {n c : Nat} {Z : Nat → Bool} (h : InB w a n c Z) (hb : Below w.heap.size w w') : InB w' a n c Z := by
  rcases h with h | ⟨h1, h2⟩
  · exact Or.inl h
  · refine Or.inr ⟨h1, fun hn => ?_⟩
    obtain ⟨b, o, e, hlt, hc⟩ := h2 hn
    exact ⟨b, o, e, Nat.lt_of_lt_of_le hlt hb.size, fun j hj => (hb.cell (p := ⟨b, o + j, none⟩) hlt).trans (hc j hj)⟩

theorem below_draws (w : World) (q : Nat) : Below w.heap.size w (w.drewN q) := below_drewN (Below.refl _ w) q

/-- The two copies, in the world behind both. -/
theorem rows_of {w1 w2 w3 : World} {a1 a2 : Option Addr} {n c1 m c2 : Nat} {Z : Nat → Int} {B : Nat → Bool} (hm : m ≤ 100000) (hnm : n ≤ m)
    (h1 : 0 < n → a1 = some ⟨w1.heap.size, 0, none⟩ ∧ c1 = n ∧ ∃ xs, w2.ownsRow w1.heap.size 3 1 (.slice (some ⟨w1.heap.size, 0, none⟩) n n) n xs ∧ ∀ j, j < n → xs[j]? = some (.int .i64 (Z j)))
    (h2 : 0 < m → a2 = some ⟨w2.heap.size, 0, none⟩ ∧ c2 = m ∧ ∃ xs, w3.ownsRow w2.heap.size 4 1 (.slice (some ⟨w2.heap.size, 0, none⟩) m m) m xs ∧ ∀ j, j < m → xs[j]? = some (.bool (B j)))
    (hb : Below w2.heap.size w2 w3) : Rows2 w3 a1 n a2 m Z B := by
  refine ⟨hm, hnm, fun hn => ?_, fun hn => ?_⟩
  · obtain ⟨e, _, xs, ho, hx⟩ := h1 hn
    refine ⟨_, _, e, fun j hj => ?_⟩
    have hlt := (ho.lt w1.heap.size rfl).2
    rw [Nat.zero_add, hb.cell (p := ⟨w1.heap.size, j, none⟩) hlt, ho.cellAt j (by omega), hx j hj]
  · obtain ⟨e, _, xs, ho, hx⟩ := h2 (by omega)
    refine ⟨_, _, e, fun j hj => ?_⟩
    rw [Nat.zero_add, ho.cellAt j (by omega), hx j hj]

theorem Rows2.draws {w : World} {a1 a2 : Option Addr} {n m : Nat} {Z : Nat → Int} {B : Nat → Bool} (h : Rows2 w a1 n a2 m Z B) (q : Nat) : Rows2 (w.drewN q) a1 n a2 m Z B :=
  ⟨h.big, h.le, h.ends, h.tried⟩

theorem zz21 (a1 a2 : Option Addr) (n c1 m c2 : Nat) (s p : Int) (w : World) (hn : n ≤ maxLen) (hm : m ≤ maxLen) :
    Calls Try.prog 21 #[.slice a1 n c1, .slice a2 m c2, .int .i64 s, .int .i64 p] w fun en w' => ∃ b : Bool, en = .returned (.bool b) ∧ w' = w := by
  unfold maxLen at hn hm
  go_enter Try.func21, Try.ntmps21
  go_wp2
  all_goals
    go_ret
    exact ⟨_, rfl, rfl⟩

set_option maxHeartbeats 1000000 in
theorem scan_easy (a1 a2 : Option Addr) (n c1 m c2 : Nat) (s p : Int) (w : World) (hn : n ≤ maxLen) (hm : m ≤ maxLen)
    (h : 65536 < n ∨ 65536 < m ∨ m < n ∨ s < 0 ∨ (n : Int) < s) :
    Calls Try.prog 8 #[.slice a1 n c1, .slice a2 m c2, .int .i64 s, .int .i64 p] w fun en w' => en = .returned (.bool true) ∧ Below w.heap.size w w' := by
  have H : Hid (Calls Try.prog 21 #[.slice a1 n c1, .slice a2 m c2, .int .i64 s, .int .i64 p] w fun en w' => ∃ b : Bool, en = .returned (.bool b) ∧ w' = w) := zz21 a1 a2 n c1 m c2 s p w hn hm
  unfold maxLen at hn hm
  by_cases h1 : 65536 < n
  · clear h
    go_enter Try.func8, Try.ntmps8
    go_wp2_with (go_at_call 21; refine H.out.mono ?_)
    rintro en w' ⟨b, rfl, rfl⟩
    cases b <;> (go_wp2; go_ret; exact ⟨rfl, Below.refl _ _⟩)
  · by_cases h2 : 65536 < m
    · clear h
      go_enter Try.func8, Try.ntmps8
      go_wp2_with (go_at_call 21; refine H.out.mono ?_)
      rintro en w' ⟨b, rfl, rfl⟩
      cases b <;> (go_wp2; go_ret; exact ⟨rfl, Below.refl _ _⟩)
    · by_cases h3 : m < n
      · clear h
        go_enter Try.func8, Try.ntmps8
        go_wp2_with (go_at_call 21; refine H.out.mono ?_)
        rintro en w' ⟨b, rfl, rfl⟩
        cases b <;> (go_wp2; go_ret; exact ⟨rfl, Below.refl _ _⟩)
      · by_cases h4 : s < 0
        · clear h
          go_enter Try.func8, Try.ntmps8
          go_wp2_with (go_at_call 21; refine H.out.mono ?_)
          rintro en w' ⟨b, rfl, rfl⟩
          cases b <;> (go_wp2; go_ret; exact ⟨rfl, Below.refl _ _⟩)
        · have h5 : (n : Int) < s := by omega
          clear h
          go_enter Try.func8, Try.ntmps8
          go_wp2_with (go_at_call 21; refine H.out.mono ?_; rintro en w' ⟨b, rfl, rfl⟩)
          all_goals
            go_ret
            exact ⟨rfl, Below.refl _ _⟩

set_option maxHeartbeats 1000000 in
theorem scan_core (a1 a2 : Option Addr) (n c1 m c2 lo : Nat) (p : Int) (Z : Nat → Int) (B : Nat → Bool) (w : World) (hn : n ≤ 65536) (hm : m ≤ 65536) (hnm : n ≤ m) (hlo : lo ≤ n)
    (hI : InI w a1 n c1 Z) (hB : InB w a2 m c2 B) :
    Calls Try.prog 8 #[.slice a1 n c1, .slice a2 m c2, .int .i64 lo, .int .i64 p] w fun en w' => en = .returned (.bool true) ∧ Below w.heap.size w w' := by
  go_enter Try.func8, Try.ntmps8
  go_wp2_with (first | (go_at_call 22; refine (sorted_any a1 n c1 Z _ (by omega) hI).mono ?_) | (go_at_call 21; go_in))
  rintro en w1 ⟨⟨f, rfl, hs⟩, q, rfl⟩
  cases f
  · clear hs
    go_wp2
    go_ret
    exact ⟨rfl, below_draws w q⟩
  · have HS : Hid (∀ i, i + 1 < n → Z i ≤ Z (i + 1)) := hs rfl
    clear hs
    have hI1 := hI.below (below_draws w q)
    have hB1 := hB.below (below_draws w q)
    clear hI hB
    go_wp2_with (go_at_call 23; refine (cloneI_any a1 n c1 Z _ (by omega) hI1).mono ?_)
    rintro en w2 ⟨a1', c1', rfl, h1, hb2⟩
    have hB2 := hB1.below hb2
    have H1 : Hid (0 < n → a1' = some ⟨(w.drewN q).heap.size, 0, none⟩ ∧ c1' = n ∧ ∃ xs, w2.ownsRow (w.drewN q).heap.size 3 1 (.slice (some ⟨(w.drewN q).heap.size, 0, none⟩) n n) n xs ∧ ∀ j, j < n → xs[j]? = some (.int .i64 (Z j))) := h1
    clear h1 hI1 hB1
    go_wp2_with (go_at_call 24; refine (cloneB_any a2 m c2 B _ (by omega) hB2).mono ?_)
    rintro en w3 ⟨a2', c2', rfl, h2, hb3⟩
    have hR := rows_of (by omega) hnm H1.out h2 hb3
    have hBel : Below w.heap.size w w3 := ((below_draws w q).trans (hb2.mono (Nat.le_refl _))).trans (hb3.mono (by have := hb2.size; simpa using this))
    clear H1 h2 hB2 hb2 hb3
    go_wp2_with (go_at_call 25; refine (shimN_any a1' a2' n c1' m c2' lo Z B p _ hR hlo HS.out).mono ?_)
    rintro en w4 ⟨⟨r, rfl, hr⟩, q', rfl⟩
    have HR1 : Hid (Near Z B n lo p r) := hr
    have hR2 := hR.draws q'
    clear hr hR
    go_wp2_with (go_at_call 26; refine (modelN_any a1' a2' n c1' m c2' lo Z B p _ hR2 hlo).mono ?_)
    rintro en w5 ⟨⟨r', rfl, hr'⟩, rfl⟩
    have HR2 : Hid (r = r') := near_one HR1.out hr'
    clear hr' hR2
    go_wp2
    go_ret
    exact ⟨ret_t (by rw [HR2.out]; simp), below_drewN hBel q'⟩

theorem scan_any (a1 a2 : Option Addr) (n c1 m c2 : Nat) (s p : Int) (Z : Nat → Int) (B : Nat → Bool) (w : World) (hn : n ≤ maxLen) (hm : m ≤ maxLen) (hI : InI w a1 n c1 Z) (hB : InB w a2 m c2 B) :
    Calls Try.prog 8 #[.slice a1 n c1, .slice a2 m c2, .int .i64 s, .int .i64 p] w fun en w' => en = .returned (.bool true) ∧ Below w.heap.size w w' := by
  by_cases h : 65536 < n ∨ 65536 < m ∨ m < n ∨ s < 0 ∨ (n : Int) < s
  · exact scan_easy a1 a2 n c1 m c2 s p w hn hm h
  · obtain ⟨lo, rfl⟩ : ∃ lo : Nat, s = lo := ⟨s.toNat, by omega⟩
    exact scan_core a1 a2 n c1 m c2 lo p Z B w (by omega) (by omega) (by omega) (by omega) hI hB
#print axioms scan_any
end Go.Proofs.Qxb6600319a
