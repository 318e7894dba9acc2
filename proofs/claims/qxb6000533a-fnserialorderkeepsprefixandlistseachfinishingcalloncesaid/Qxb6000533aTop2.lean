/-
  FnSerialOrderKeepsPrefixAndListsEachFinishingCallOnce at no slot, and at every input.
-/
import Derived.Test.Qxb6000533aTop
namespace Go.Proofs.Qxb6000533a
open Go.RowKit

theorem copyB_none (a : Option Addr) (c : Nat) (S : Nat → Int) (w : World) (h : InB w a 0 c S) :
    Calls Try.prog 11 #[.slice a 0 c] w fun e w' => ∃ x d, e = .returned (.slice x 0 d) ∧ Below w.heap.size w w' := by
  refine (copyB_any a 0 c S w (by omega) h).mono ?_
  rintro e w' ⟨x, d, he, _, _, _, hb⟩
  exact ⟨x, d, he, hb⟩

set_option maxHeartbeats 2000000 in
set_option maxRecDepth 100000 in
theorem top_none (a1 a2 : Option Addr) (l c1 c2 : Nat) (Z S : Nat → Int) (w : World) (hl : l ≤ 65536) (hI : InI w a1 l c1 Z) (hB : InB w a2 0 c2 S) :
    Calls Try.prog 3 #[.slice a1 l c1, .slice a2 0 c2] w fun en w' => en = .returned (.bool true) ∧ Below w.heap.size w w' := by
  obtain ⟨i0, hi, hz0, hz1, hz2⟩ := info_parts info3
  go_enter Try.func3, Try.ntmps3
  go_wp2_with (first | (go_at_call 10; refine (copyI_any a1 l c1 Z _ (by omega) hI).mono ?_) | (go_at_call 9; go_in))
  rintro en w1 ⟨x1, d1, rfl, e1, n1, r1, hb1⟩
  have e1' := e1.symm
  subst e1'
  have hR1 := row_copy r1
  have hB1 := hB.below hb1
  clear r1 e1 hI hB
  go_wp2_with (go_at_call 11; refine (copyB_none a2 c2 S _ hB1).mono ?_)
  rintro en w2 ⟨x2, d2, rfl, hb2⟩
  have hR1' := hR1.below hb2
  have hI2 := in_of_row hR1' n1
  have HB2 : Hid (Below w.heap.size w w2) := hb1.trans (hb2.mono hb1.size)
  have hsz2 : w.heap.size ≤ w2.heap.size := HB2.out.size
  clear hB1 hb1 hb2 hR1
  go_wp2_with (go_at_call 10; refine (copyI_any x1 l l Z _ (by omega) hI2).mono ?_)
  rintro en w3 ⟨x3, d3, rfl, e3, n3, r3, hb3⟩
  have e3' := e3.symm
  subst e3'
  have hR3 := row_copy r3
  have hR1'' := hR1'.below hb3
  have HB3 : Hid (Below w.heap.size w w3) := HB2.out.trans (hb3.mono hsz2)
  have hsz3 : w.heap.size ≤ w3.heap.size := HB3.out.size
  clear r3 e3 n3 hI2 hR1' hb3 HB2 hsz2 n1
  have HZ : Hid (Calls Try.prog 12 #[.slice x1 l l, .slice x2 0 d2] w3 fun e w' => e = .returned (.slice x1 l l) ∧ Below w3.heap.size w3 w') := zser_none x1 l x2 d2 w3 (by omega)
  have HR1 : Hid (Row w3 x1 l (fun j => .int .i64 (Z j))) := hR1''
  have HR3 : Hid (Row w3 x3 l (fun j => .int .i64 (Z j))) := hR3
  clear hR1'' hR3
  go_wp2_with (go_at_call 12; refine HZ.out.mono ?_)
  rintro en w4 ⟨rfl, hb4⟩
  have HR1' : Hid (Row w4 x1 l (fun j => .int .i64 (Z j))) := HR1.out.below hb4
  have HR3' : Hid (Row w4 x3 l (fun j => .int .i64 (Z j))) := HR3.out.below hb4
  have HB4 : Hid (Below w.heap.size w w4) := HB3.out.trans (hb4.mono hsz3)
  clear hb4 HR1 HR3 HB3 HZ
  go_wp2
  go_loopw [7] (fun i wr => ∃ k q : Nat, k ≤ l ∧ i = .int .i64 (k : Int) ∧ wr = w4.drewN q) (fun i _ => l - (intOf i).toNat)
  case atStart => exact ⟨0, 0, Nat.zero_le _, rfl, rfl⟩
  case round =>
    obtain ⟨k, q, hk, rfl, rfl⟩ := hrel
    by_cases hc : k < l
    · obtain ⟨g3, rfl, hlt3, hc3⟩ := HR3'.out (by omega)
      obtain ⟨go, rfl, hlto, hco⟩ := HR1'.out (by omega)
      have hcell3 : w4.cell? ⟨g3, k, none⟩ = some (.int .i64 (Z k)) := hc3 k hc
      have hcello : w4.cell? ⟨go, k, none⟩ = some (.int .i64 (Z k)) := hco k hc
      have hne : (Z k != Z k) = false := by simp
      clear hc3 hco hlt3 hlto
      go_wp2
      go_quiet (fail)
      go_wp2
      go_roundw
      case rel => exact ⟨k + 1, q + nq, by omega, by go_num, by first | rfl | rw [World.drewN_drewN]⟩
      case measure => simp [intOf]; omega
    · have hkl : l = k := by omega
      subst hkl
      go_wp2_with (at_make; refine wpList_make_full _ rfl _ _ 22 rfl w4.heap.size 3 i0 (.int .i64 0) 1 Try.underlying22 hi hz0 hz1 .i64 .i64 _ _ 0 rfl rfl ?c1 ?c2 ?c3 ?c4 ?c5 ?_)
      case c1 => rfl
      case c2 => rfl
      case c3 => omega
      case c4 => exact Nat.zero_le _
      case c5 => exact Nat.le_refl _
      intro w5 hown5 hgrow5
      have HB5 : Hid (Below w.heap.size w w5) := (below_drewN HB4.out q).grown hgrow5 HB4.out.size (fun k hk => by simp at hk)
      clear hgrow5 hown5 hc
      go_wp2
      refine wp_loop_rounds 1 ?_
      rw [rounds_succ]
      go_wp2
      refine wp_loop_rounds 1 ?_
      rw [rounds_succ]
      go_wp2
      go_ret
      exact ⟨rfl, HB5.out⟩

theorem top_any (a1 a2 : Option Addr) (l c1 m c2 : Nat) (Z S : Nat → Int) (w : World) (hn : l ≤ maxLen) (hm : m ≤ maxLen) (hI : InI w a1 l c1 Z) (hB : InB w a2 m c2 S) :
    Calls Try.prog 3 #[.slice a1 l c1, .slice a2 m c2] w fun en w' => en = .returned (.bool true) ∧ Below w.heap.size w w' := by
  by_cases h : 65536 < l ∨ 262144 < m ∨ 1048576 < 8 * l + m
  · exact top_easy a1 a2 l c1 m c2 w hn hm h
  · by_cases h0 : m = 0
    · subst h0
      exact top_none a1 a2 l c1 c2 Z S w (by omega) hI hB
    · exact top_core a1 a2 l c1 m c2 Z S w (by omega) (by omega) (by omega) (by omega) hI hB
#print axioms top_any
end Go.Proofs.Qxb6000533a
