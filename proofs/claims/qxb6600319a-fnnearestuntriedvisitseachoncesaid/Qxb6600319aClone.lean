/-
  The walks of sortedInts, cloneInts and cloneBools.
-/
import Derived.Test.Qxb6600319aNear
import Derived.Deep.QuietTactic
import Derived.BigQuiet
namespace Go.Proofs.Qxb6600319a
open Go.RowKit

theorem info3 : (Try.prog.info? 3).map (fun i => (i.zero, i.size, i.bytes)) = some (some (.int .i64 0), 1, 8) := by kernel_rfl
theorem info4 : (Try.prog.info? 4).map (fun i => (i.zero, i.size, i.bytes)) = some (some (.bool false), 1, 1) := by kernel_rfl

set_option maxHeartbeats 400000 in
theorem sorted_short (a : Option Addr) (n c : Nat) (w : World) (hn : n ≤ 1) :
    Calls Try.prog 22 #[.slice a n c] w fun e w' => e = .returned (.bool true) ∧ w' = w := by
  go_enter Try.func22, Try.ntmps22
  go_wp2
  refine wp_loop_rounds 1 ?_
  rw [rounds_succ]
  go_wp2
  go_ret
  exact ⟨rfl, rfl⟩

set_option maxHeartbeats 1000000 in
theorem sorted_core (b o n c : Nat) (Z : Nat → Int) (w : World) (hn : n ≤ 100000) (hn1 : 1 ≤ n) (hZ : ∀ j, j < n → w.cell? ⟨b, o + j, none⟩ = some (.int .i64 (Z j))) :
    Calls Try.prog 22 #[.slice (some ⟨b, o, none⟩) n c] w fun e w' => (∃ f : Bool, e = .returned (.bool f) ∧ (f = true → ∀ i, i + 1 < n → Z i ≤ Z (i + 1))) ∧ ∃ q, w' = w.drewN q := by
  have HZ : Hid (∀ j, j < n → w.cell? ⟨b, o + j, none⟩ = some (.int .i64 (Z j))) := hZ
  clear hZ
  go_enter Try.func22, Try.ntmps22
  go_wp2
  go_loopw [3] (fun i wr => ∃ k q : Nat, 1 ≤ k ∧ k ≤ n ∧ i = .int .i64 (k : Int) ∧ wr = w.drewN q ∧ Hid (∀ i, i + 1 < k → Z i ≤ Z (i + 1))) (fun i _ => n - (intOf i).toNat)
  case atStart => exact ⟨1, 0, by omega, by omega, rfl, rfl, fun i h => by omega⟩
  case round =>
    obtain ⟨k, q, hk1, hk2, rfl, rfl, hs⟩ := hrel
    by_cases hc : k < n
    · obtain ⟨t, rfl⟩ : ∃ t, k = t + 1 := ⟨k - 1, by omega⟩
      have hc1 := HZ.out (t + 1) hc
      have hc0 := HZ.out t (by omega)
      rw [show (((t + 1 : Nat) : Int)) = (t : Int) + 1 from by omega]
      by_cases hz : Z (t + 1) < Z t
      · go_wp2
        go_quiet (fail)
        go_wp2
        go_ret
        exact ⟨⟨false, rfl, fun h => by cases h⟩, q + nq, by first | rfl | rw [World.drewN_drewN]⟩
      · have HS : Hid (∀ i, i + 1 < t + 1 + 1 → Z i ≤ Z (i + 1)) := fun i h => by
          rcases Nat.lt_or_ge i t with h' | h'
          · exact hs.out i (by omega)
          · obtain rfl : i = t := by omega
            omega
        go_wp2
        go_quiet (fail)
        go_wp2
        go_roundw
        case rel => exact ⟨t + 1 + 1, q + nq, by omega, by omega, by go_num, by first | rfl | rw [World.drewN_drewN], HS⟩
        case measure => simp [intOf]; omega
    · go_wp2
      go_ret
      exact ⟨⟨true, rfl, fun _ i hi => hs.out i (by omega)⟩, q, rfl⟩

set_option maxHeartbeats 400000 in
theorem cloneI_nil (w : World) : Calls Try.prog 23 #[.slice none 0 0] w fun e w' => e = .returned (.slice none 0 0) ∧ w' = w := by
  have hnl := fun wx => Lib.run_eql_slice_nil (P := Try.prog) wx 26 3 none 0 0 0 0 Try.underlying26
  go_enter Try.func23, Try.ntmps23
  go_wp2
  go_ret
  exact ⟨rfl, rfl⟩

set_option maxHeartbeats 400000 in
theorem cloneI_zero (x : Addr) (c : Nat) (w : World) : Calls Try.prog 23 #[.slice (some x) 0 c] w fun e w' => e = .returned (.slice (some ⟨w.heap.size, 0, none⟩) 0 0) ∧
    Below w.heap.size w w' := by
  obtain ⟨i0, hi, hz0, hz1, hz2⟩ := info_parts info3
  have hnl := fun wx => Lib.run_eql_slice_nil (P := Try.prog) wx 26 3 (some x) 0 c 0 0 Try.underlying26
  go_enter Try.func23, Try.ntmps23
  go_wp2_with (at_make; refine wpList_make_full _ rfl _ _ 26 rfl w.heap.size 3 i0 (.int .i64 0) 1 Try.underlying26 hi hz0 hz1 .i64 .i64 _ _ 0 rfl rfl ?c1 ?c2 ?c3 ?c4 ?c5 ?_)
  case c1 => rfl
  case c2 => rfl
  case c3 => omega
  case c4 => exact Nat.zero_le _
  case c5 => exact Nat.le_refl _
  intro w1 hown1 hgrow1
  have hb1 : Below w.heap.size w w1 := (Below.refl _ w).grown hgrow1 (Nat.le_refl _) (fun k hk => by simp at hk)
  clear hgrow1
  go_wp2
  refine wp_loop_rounds 1 ?_
  rw [rounds_succ]
  go_wp2
  go_ret
  exact ⟨rfl, hb1⟩

set_option maxHeartbeats 1000000 in
theorem cloneI_row (b o n c : Nat) (Z : Nat → Int) (w : World) (hn : n ≤ 100000) (hlt : b < w.heap.size) (hZ : ∀ j, j < n → w.cell? ⟨b, o + j, none⟩ = some (.int .i64 (Z j))) :
    Calls Try.prog 23 #[.slice (some ⟨b, o, none⟩) n c] w fun e w' => e = .returned (.slice (some ⟨w.heap.size, 0, none⟩) n n) ∧
      (∃ xs, w'.ownsRow w.heap.size 3 1 (.slice (some ⟨w.heap.size, 0, none⟩) n n) n xs ∧ ∀ j, j < n → xs[j]? = some (.int .i64 (Z j))) ∧ Below w.heap.size w w' := by
  obtain ⟨i0, hi, hz0, hz1, hz2⟩ := info_parts info3
  have HZ : Hid (∀ j, j < n → w.cell? ⟨b, o + j, none⟩ = some (.int .i64 (Z j))) := hZ
  clear hZ
  have hnl := fun wx => Lib.run_eql_slice_nil (P := Try.prog) wx 26 3 (some ⟨b, o, none⟩) n c 0 0 Try.underlying26
  go_enter Try.func23, Try.ntmps23
  go_wp2_with (at_make; refine wpList_make_full _ rfl _ _ 26 rfl w.heap.size 3 i0 (.int .i64 0) 1 Try.underlying26 hi hz0 hz1 .i64 .i64 _ _ n rfl rfl ?c1 ?c2 ?c3 ?c4 ?c5 ?_)
  case c1 => rfl
  case c2 => rfl
  case c3 => rw [hz2]; omega
  case c4 => unfold maxLen; omega
  case c5 => exact Nat.le_refl _
  intro w1 hown1 hgrow1
  have hb1 : Below w.heap.size w w1 := (Below.refl _ w).grown hgrow1 (Nat.le_refl _) (fun k hk => by simp at hk)
  clear hgrow1 hnl
  go_wp2
  go_loopw [4] (fun i wr => ∃ (k : Nat) (xs : List Value), k ≤ n ∧ i = .int .i64 (k : Int) ∧ wr.ownsRow w.heap.size 3 1 (.slice (some ⟨w.heap.size, 0, none⟩) n n) n xs ∧ Hid (∀ j, j < k → xs[j]? = some (.int .i64 (Z j))) ∧ Below w.heap.size w wr) (fun i _ => n - (intOf i).toNat)
  case atStart => exact ⟨0, _, Nat.zero_le _, rfl, hown1, fun j h => by omega, hb1⟩
  case round =>
    obtain ⟨k, xs, hk, rfl, hown, hs, hbw⟩ := hrel
    by_cases hc : k < n
    · have hcell : wr.cell? ⟨b, o + k, none⟩ = some (.int .i64 (Z k)) := (hbw.cell hlt).trans (HZ.out k hc)
      have hxl : xs.length = n := by have := hown.1; omega
      have hold : ∃ v, wr.cell? ⟨w.heap.size, k, none⟩ = some v := by
        rw [hown.cellAt k (by omega), List.getElem?_eq_getElem (by omega)]
        exact ⟨_, rfl⟩
      obtain ⟨vold, hold⟩ := hold
      have hfz := hown.frozenAt k
      obtain ⟨hown2, hgrow2⟩ := hown.stored k (.int .i64 (Z k))
      have hb2 : Below w.heap.size w (wr.setCell ⟨w.heap.size, k, none⟩ (.int .i64 (Z k))) := hbw.setCell (Nat.le_refl _) _
      have HS : Hid (∀ j, j < k + 1 → (xs.set k (.int .i64 (Z k)))[j]? = some (.int .i64 (Z j))) := fun j hj => by
        rw [List.getElem?_set]
        by_cases e : k = j
        · subst e
          rw [if_pos rfl, if_pos (by omega)]
        · rw [if_neg e]
          exact hs.out j (by omega)
      clear hown hgrow2 hbw hs
      have hown3 : Hid ((wr.setCell ⟨w.heap.size, k, none⟩ (.int .i64 (Z k))).ownsRow w.heap.size 3 1 (.slice (some ⟨w.heap.size, 0, none⟩) n n) n (xs.set k (.int .i64 (Z k)))) := hown2
      clear hown2
      go_wp2
      go_roundw
      case rel => exact ⟨k + 1, _, by omega, by go_num, hown3.out, HS, hb2⟩
      case measure => simp [intOf]; omega
    · obtain rfl : k = n := by omega
      go_wp2
      go_ret
      exact ⟨rfl, ⟨xs, hown, hs.out⟩, hbw⟩

set_option maxHeartbeats 400000 in
theorem cloneB_nil (w : World) : Calls Try.prog 24 #[.slice none 0 0] w fun e w' => e = .returned (.slice none 0 0) ∧ w' = w := by
  have hnl := fun wx => Lib.run_eql_slice_nil (P := Try.prog) wx 28 4 none 0 0 0 0 Try.underlying28
  go_enter Try.func24, Try.ntmps24
  go_wp2
  go_ret
  exact ⟨rfl, rfl⟩

set_option maxHeartbeats 400000 in
theorem cloneB_zero (x : Addr) (c : Nat) (w : World) : Calls Try.prog 24 #[.slice (some x) 0 c] w fun e w' => e = .returned (.slice (some ⟨w.heap.size, 0, none⟩) 0 0) ∧
    Below w.heap.size w w' := by
  obtain ⟨i0, hi, hz0, hz1, hz2⟩ := info_parts info4
  have hnl := fun wx => Lib.run_eql_slice_nil (P := Try.prog) wx 28 4 (some x) 0 c 0 0 Try.underlying28
  go_enter Try.func24, Try.ntmps24
  go_wp2_with (at_make; refine wpList_make_full _ rfl _ _ 28 rfl w.heap.size 4 i0 (.bool false) 1 Try.underlying28 hi hz0 hz1 .i64 .i64 _ _ 0 rfl rfl ?c1 ?c2 ?c3 ?c4 ?c5 ?_)
  case c1 => rfl
  case c2 => rfl
  case c3 => omega
  case c4 => exact Nat.zero_le _
  case c5 => exact Nat.le_refl _
  intro w1 hown1 hgrow1
  have hb1 : Below w.heap.size w w1 := (Below.refl _ w).grown hgrow1 (Nat.le_refl _) (fun k hk => by simp at hk)
  clear hgrow1
  go_wp2
  refine wp_loop_rounds 1 ?_
  rw [rounds_succ]
  go_wp2
  go_ret
  exact ⟨rfl, hb1⟩

set_option maxHeartbeats 1000000 in
theorem cloneB_row (b o n c : Nat) (Z : Nat → Bool) (w : World) (hn : n ≤ 100000) (hlt : b < w.heap.size) (hZ : ∀ j, j < n → w.cell? ⟨b, o + j, none⟩ = some (.bool (Z j))) :
    Calls Try.prog 24 #[.slice (some ⟨b, o, none⟩) n c] w fun e w' => e = .returned (.slice (some ⟨w.heap.size, 0, none⟩) n n) ∧
      (∃ xs, w'.ownsRow w.heap.size 4 1 (.slice (some ⟨w.heap.size, 0, none⟩) n n) n xs ∧ ∀ j, j < n → xs[j]? = some (.bool (Z j))) ∧ Below w.heap.size w w' := by
  obtain ⟨i0, hi, hz0, hz1, hz2⟩ := info_parts info4
  have HZ : Hid (∀ j, j < n → w.cell? ⟨b, o + j, none⟩ = some (.bool (Z j))) := hZ
  clear hZ
  have hnl := fun wx => Lib.run_eql_slice_nil (P := Try.prog) wx 28 4 (some ⟨b, o, none⟩) n c 0 0 Try.underlying28
  go_enter Try.func24, Try.ntmps24
  go_wp2_with (at_make; refine wpList_make_full _ rfl _ _ 28 rfl w.heap.size 4 i0 (.bool false) 1 Try.underlying28 hi hz0 hz1 .i64 .i64 _ _ n rfl rfl ?c1 ?c2 ?c3 ?c4 ?c5 ?_)
  case c1 => rfl
  case c2 => rfl
  case c3 => rw [hz2]; omega
  case c4 => unfold maxLen; omega
  case c5 => exact Nat.le_refl _
  intro w1 hown1 hgrow1
  have hb1 : Below w.heap.size w w1 := (Below.refl _ w).grown hgrow1 (Nat.le_refl _) (fun k hk => by simp at hk)
  clear hgrow1 hnl
  go_wp2
  go_loopw [4] (fun i wr => ∃ (k : Nat) (xs : List Value), k ≤ n ∧ i = .int .i64 (k : Int) ∧ wr.ownsRow w.heap.size 4 1 (.slice (some ⟨w.heap.size, 0, none⟩) n n) n xs ∧ Hid (∀ j, j < k → xs[j]? = some (.bool (Z j))) ∧ Below w.heap.size w wr) (fun i _ => n - (intOf i).toNat)
  case atStart => exact ⟨0, _, Nat.zero_le _, rfl, hown1, fun j h => by omega, hb1⟩
  case round =>
    obtain ⟨k, xs, hk, rfl, hown, hs, hbw⟩ := hrel
    by_cases hc : k < n
    · have hcell : wr.cell? ⟨b, o + k, none⟩ = some (.bool (Z k)) := (hbw.cell hlt).trans (HZ.out k hc)
      have hxl : xs.length = n := by have := hown.1; omega
      have hold : ∃ v, wr.cell? ⟨w.heap.size, k, none⟩ = some v := by
        rw [hown.cellAt k (by omega), List.getElem?_eq_getElem (by omega)]
        exact ⟨_, rfl⟩
      obtain ⟨vold, hold⟩ := hold
      have hfz := hown.frozenAt k
      obtain ⟨hown2, hgrow2⟩ := hown.stored k (.bool (Z k))
      have hb2 : Below w.heap.size w (wr.setCell ⟨w.heap.size, k, none⟩ (.bool (Z k))) := hbw.setCell (Nat.le_refl _) _
      have HS : Hid (∀ j, j < k + 1 → (xs.set k (.bool (Z k)))[j]? = some (.bool (Z j))) := fun j hj => by
        rw [List.getElem?_set]
        by_cases e : k = j
        · subst e
          rw [if_pos rfl, if_pos (by omega)]
        · rw [if_neg e]
          exact hs.out j (by omega)
      clear hown hgrow2 hbw hs
      have hown3 : Hid ((wr.setCell ⟨w.heap.size, k, none⟩ (.bool (Z k))).ownsRow w.heap.size 4 1 (.slice (some ⟨w.heap.size, 0, none⟩) n n) n (xs.set k (.bool (Z k)))) := hown2
      clear hown2
      go_wp2
      go_roundw
      case rel => exact ⟨k + 1, _, by omega, by go_num, hown3.out, HS, hb2⟩
      case measure => simp [intOf]; omega
    · obtain rfl : k = n := by omega
      go_wp2
      go_ret
      exact ⟨rfl, ⟨xs, hown, hs.out⟩, hbw⟩

/-- What is known of a slice that came in: nil, or its cells where there is an element. -/
def InI (w : World) (a : Option Addr) (n c : Nat) (Z : Nat → Int) : Prop :=
  (a = none ∧ n = 0 ∧ c = 0) ∨ ((∃ x, a = some x) ∧ (0 < n → ∃ b o, a = some ⟨b, o, none⟩ ∧ b < w.heap.size ∧ ∀ j, j < n → w.cell? ⟨b, o + j, none⟩ = some (.int .i64 (Z j))))

theorem cloneI_any (a : Option Addr) (n c : Nat) (Z : Nat → Int) (w : World) (hn : n ≤ 100000) (h : InI w a n c Z) :
    Calls Try.prog 23 #[.slice a n c] w fun e w' => ∃ a' c', e = .returned (.slice a' n c') ∧
      (0 < n → a' = some ⟨w.heap.size, 0, none⟩ ∧ c' = n ∧ ∃ xs, w'.ownsRow w.heap.size 3 1 (.slice (some ⟨w.heap.size, 0, none⟩) n n) n xs ∧ ∀ j, j < n → xs[j]? = some (.int .i64 (Z j))) ∧ Below w.heap.size w w' := by
  rcases h with ⟨rfl, rfl, rfl⟩ | ⟨⟨x, rfl⟩, h⟩
  · refine (cloneI_nil w).mono fun e w' ⟨he, hw⟩ => ?_
    subst hw
    exact ⟨none, 0, he, fun h => by omega, Below.refl _ _⟩
  · by_cases h0 : n = 0
    · subst h0
      refine (cloneI_zero x c w).mono fun e w' ⟨he, hb⟩ => ?_
      exact ⟨_, _, he, fun h => by omega, hb⟩
    · obtain ⟨b, o, hx, hlt, hc⟩ := h (by omega)
      cases hx
      refine (cloneI_row b o n c Z w hn hlt hc).mono fun e w' ⟨he, hxs, hb⟩ => ?_
      exact ⟨_, _, he, fun _ => ⟨rfl, rfl, hxs⟩, hb⟩

/-- What is known of a slice that came in: nil, or its cells where there is an element. -/
def InB (w : World) (a : Option Addr) (n c : Nat) (Z : Nat → Bool) : Prop :=
  (a = none ∧ n = 0 ∧ c = 0) ∨ ((∃ x, a = some x) ∧ (0 < n → ∃ b o, a = some ⟨b, o, none⟩ ∧ b < w.heap.size ∧ ∀ j, j < n → w.cell? ⟨b, o + j, none⟩ = some (.bool (Z j))))

theorem cloneB_any (a : Option Addr) (n c : Nat) (Z : Nat → Bool) (w : World) (hn : n ≤ 100000) (h : InB w a n c Z) :
    Calls Try.prog 24 #[.slice a n c] w fun e w' => ∃ a' c', e = .returned (.slice a' n c') ∧
      (0 < n → a' = some ⟨w.heap.size, 0, none⟩ ∧ c' = n ∧ ∃ xs, w'.ownsRow w.heap.size 4 1 (.slice (some ⟨w.heap.size, 0, none⟩) n n) n xs ∧ ∀ j, j < n → xs[j]? = some (.bool (Z j))) ∧ Below w.heap.size w w' := by
  rcases h with ⟨rfl, rfl, rfl⟩ | ⟨⟨x, rfl⟩, h⟩
  · refine (cloneB_nil w).mono fun e w' ⟨he, hw⟩ => ?_
    subst hw
    exact ⟨none, 0, he, fun h => by omega, Below.refl _ _⟩
  · by_cases h0 : n = 0
    · subst h0
      refine (cloneB_zero x c w).mono fun e w' ⟨he, hb⟩ => ?_
      exact ⟨_, _, he, fun h => by omega, hb⟩
    · obtain ⟨b, o, hx, hlt, hc⟩ := h (by omega)
      cases hx
      refine (cloneB_row b o n c Z w hn hlt hc).mono fun e w' ⟨he, hxs, hb⟩ => ?_
      exact ⟨_, _, he, fun _ => ⟨rfl, rfl, hxs⟩, hb⟩

theorem sorted_any (a : Option Addr) (n c : Nat) (Z : Nat → Int) (w : World) (hn : n ≤ 100000) (h : InI w a n c Z) :
    Calls Try.prog 22 #[.slice a n c] w fun e w' => (∃ f : Bool, e = .returned (.bool f) ∧ (f = true → ∀ i, i + 1 < n → Z i ≤ Z (i + 1))) ∧ ∃ q, w' = w.drewN q := by
  by_cases h1 : n ≤ 1
  · refine (sorted_short a n c w h1).mono fun e w' ⟨he, hw⟩ => ?_
    exact ⟨⟨true, he, fun _ i hi => by omega⟩, 0, hw⟩
  · rcases h with ⟨rfl, rfl, rfl⟩ | ⟨_, h⟩
    · omega
    · obtain ⟨b, o, rfl, _, hc⟩ := h (by omega)
      exact sorted_core b o n c Z w hn (by omega) hc
#print axioms sorted_any
#print axioms cloneI_any
#print axioms cloneB_any
end Go.Proofs.Qxb6600319a
