/-
  FnNearestUntriedVisitsEachOnce at no end, and at every input.
-/
import Derived.Test.Qxb6600319aVisit
namespace Go.Proofs.Qxb6600319a
open Go.RowKit

theorem rows_zero {w : World} {a1 a2 : Option Addr} {m : Nat} {Z : Nat → Int} {B : Nat → Bool} (hm : m ≤ 100000) : Rows2 w a1 0 a2 m Z B :=
  ⟨hm, Nat.zero_le _, fun h => absurd h (by omega), fun h => absurd h (by omega)⟩

theorem near_zero_call (a1 a2 : Option Addr) (c1 m c2 : Nat) (p : Int) (w : World) (hm : m ≤ 100000) :
    Calls Try.prog 25 #[.slice a1 0 c1, .slice a2 m c2, .int .i64 0, .int .i64 p] w fun e w' => e = .returned (.int .i64 (-1)) ∧ ∃ q, w' = w.drewN q := by
  refine (shimN_any a1 a2 0 c1 m c2 0 (fun _ => 0) (fun _ => true) p w (rows_zero hm) (Nat.le_refl _) (fun i h => by omega)).mono ?_
  rintro e w' ⟨⟨r, rfl, hr⟩, hq⟩
  rw [near_zero hr]
  exact ⟨rfl, hq⟩

set_option maxHeartbeats 1000000 in
set_option maxRecDepth 100000 in
theorem visit_none (a1 a2 : Option Addr) (c1 m c2 : Nat) (p : Int) (Z : Nat → Int) (B : Nat → Bool) (w : World) (hm : m ≤ 1024)
    (hI : InI w a1 0 c1 Z) (hB : InB w a2 m c2 B) :
    Calls Try.prog 9 #[.slice a1 0 c1, .slice a2 m c2, .int .i64 0, .int .i64 p] w fun en w' => en = .returned (.bool true) ∧ Below w.heap.size w w' := by
  go_enter Try.func9, Try.ntmps9
  go_wp2_with (first | (go_at_call 22; refine (sorted_short a1 0 c1 _ (by omega)).mono ?_; rintro en w' ⟨rfl, rfl⟩) | (go_at_call 27; go_in) | (go_at_call 23; refine (cloneI_any a1 0 c1 Z _ (by omega) hI).mono ?_))
  rintro en w2 ⟨a1', c1', rfl, hh1, hb2⟩
  clear hh1
  have hB2 := hB.below hb2
  go_wp2_with (go_at_call 24; refine (cloneB_any a2 m c2 B _ (by omega) hB2).mono ?_)
  rintro en w3 ⟨a2', c2', rfl, hh2, hb3⟩
  clear hh2
  have hBel := hb2.trans (hb3.mono hb2.size)
  clear hB2 hb2 hb3 hB hI
  go_wp2
  refine wp_loop_rounds 1 ?_
  rw [rounds_succ]
  go_wp2
  refine wp_loop_rounds 1 ?_
  rw [rounds_succ]
  go_wp2_with (go_at_call 25; refine (near_zero_call a1' a2' c1' m c2' p _ (by omega)).mono ?_)
  rintro en w4 ⟨rfl, q, hw4⟩
  have hBel4 := below_drewN hBel q
  rw [← hw4] at hBel4
  clear hw4
  go_wp2
  go_ret
  exact ⟨rfl, hBel4⟩

theorem visit_any (a1 a2 : Option Addr) (n c1 m c2 : Nat) (s p : Int) (Z : Nat → Int) (B : Nat → Bool) (w : World) (hn : n ≤ maxLen) (hm : m ≤ maxLen) (hI : InI w a1 n c1 Z) (hB : InB w a2 m c2 B) :
    Calls Try.prog 9 #[.slice a1 n c1, .slice a2 m c2, .int .i64 s, .int .i64 p] w fun en w' => en = .returned (.bool true) ∧ Below w.heap.size w w' := by
  by_cases h : 1024 < n ∨ 1024 < m ∨ m < n ∨ s < 0 ∨ (n : Int) < s
  · exact visit_easy a1 a2 n c1 m c2 s p w hn hm h
  · obtain ⟨lo, rfl⟩ : ∃ lo : Nat, s = lo := ⟨s.toNat, by omega⟩
    by_cases h0 : n = 0
    · subst h0
      obtain rfl : lo = 0 := by omega
      exact visit_none a1 a2 c1 m c2 p Z B w (by omega) hI hB
    · exact visit_core a1 a2 n c1 m c2 lo p Z B w (by omega) (by omega) (by omega) (by omega) (by omega) hI hB
#print axioms visit_any
end Go.Proofs.Qxb6600319a
