/-
  The walks of zzCopyInts and zzCopyBytes.
-/
import Derived.Test.Qxb6000533aShelf
import Derived.Test.Qxb6000533aPlain
import Derived.WalkKit
import Derived.WalkSpells
import Derived.WalkLawsBesides
import Derived.Below
import Derived.Deep.QuietTactic
import Derived.BigQuiet
namespace Go.Proofs.Qxb6000533a
open Go.RowKit

theorem info3 : (Try.prog.info? 3).map (fun i => (i.zero, i.size, i.bytes)) = some (some (.int .i64 0), 1, 8) := by kernel_rfl
theorem info5 : (Try.prog.info? 5).map (fun i => (i.zero, i.size, i.bytes)) = some (some (.int .u8 0), 1, 1) := by kernel_rfl
theorem info52 : (Try.prog.info? 52).map (fun i => (i.zero, i.size, i.bytes)) = some (some (.int .u8 0), 1, 1) := by kernel_rfl

set_option maxHeartbeats 400000 in
theorem copyI_nil (w : World) : Calls Try.prog 10 #[.slice none 0 0] w fun e w' => e = .returned (.slice none 0 0) ∧ w' = w := by
  have hnl := fun wx => Lib.run_eql_slice_nil (P := Try.prog) wx 22 3 none 0 0 0 0 Try.underlying22
  go_enter Try.func10, Try.ntmps10
  go_wp2
  go_ret
  exact ⟨rfl, rfl⟩

set_option maxHeartbeats 400000 in
theorem copyI_zero (x : Addr) (c : Nat) (w : World) : Calls Try.prog 10 #[.slice (some x) 0 c] w fun e w' => e = .returned (.slice (some ⟨w.heap.size, 0, none⟩) 0 0) ∧
    Below w.heap.size w w' := by
  obtain ⟨i0, hi, hz0, hz1, hz2⟩ := info_parts info3
  have hnl := fun wx => Lib.run_eql_slice_nil (P := Try.prog) wx 22 3 (some x) 0 c 0 0 Try.underlying22
  go_enter Try.func10, Try.ntmps10
  go_wp2_with (at_make; refine wpList_make_full _ rfl _ _ 22 rfl w.heap.size 3 i0 (.int .i64 0) 1 Try.underlying22 hi hz0 hz1 .i64 .i64 _ _ 0 rfl rfl ?c1 ?c2 ?c3 ?c4 ?c5 ?_)
  case c1 => rfl
  case c2 => rfl
  case c3 => omega
  case c4 => exact Nat.zero_le _
  case c5 => exact Nat.le_refl _
  intro w1 hown1 hgrow1
  have hb1 : Below w.heap.size w w1 := (Below.refl _ w).grown hgrow1 (Nat.le_refl _) (fun k hk => by simp at hk)
  clear hgrow1
  go_wp2
  refine wp_loop_rounds 1 ?_
  rw [rounds_succ]
  go_wp2
  go_ret
  exact ⟨rfl, hb1⟩

set_option maxHeartbeats 1000000 in
theorem copyI_row (b o n c : Nat) (Z : Nat → Int) (w : World) (hn : n ≤ 10000000) (hlt : b < w.heap.size) (hZ : ∀ j, j < n → w.cell? ⟨b, o + j, none⟩ = some (.int .i64 (Z j))) :
    Calls Try.prog 10 #[.slice (some ⟨b, o, none⟩) n c] w fun e w' => e = .returned (.slice (some ⟨w.heap.size, 0, none⟩) n n) ∧
      (∃ xs, w'.ownsRow w.heap.size 3 1 (.slice (some ⟨w.heap.size, 0, none⟩) n n) n xs ∧ ∀ j, j < n → xs[j]? = some (.int .i64 (Z j))) ∧ Below w.heap.size w w' := by
  obtain ⟨i0, hi, hz0, hz1, hz2⟩ := info_parts info3
  have HZ : Hid (∀ j, j < n → w.cell? ⟨b, o + j, none⟩ = some (.int .i64 (Z j))) := hZ
  clear hZ
  have hnl := fun wx => Lib.run_eql_slice_nil (P := Try.prog) wx 22 3 (some ⟨b, o, none⟩) n c 0 0 Try.underlying22
  go_enter Try.func10, Try.ntmps10
  go_wp2_with (at_make; refine wpList_make_full _ rfl _ _ 22 rfl w.heap.size 3 i0 (.int .i64 0) 1 Try.underlying22 hi hz0 hz1 .i64 .i64 _ _ n rfl rfl ?c1 ?c2 ?c3 ?c4 ?c5 ?_)
  case c1 => rfl
  case c2 => rfl
  case c3 => rw [hz2]; omega
  case c4 => unfold maxLen; omega
  case c5 => exact Nat.le_refl _
  intro w1 hown1 hgrow1
  have hb1 : Below w.heap.size w w1 := (Below.refl _ w).grown hgrow1 (Nat.le_refl _) (fun k hk => by simp at hk)
  clear hgrow1 hnl
  go_wp2
  go_loopw [4] (fun i wr => ∃ (k : Nat) (xs : List Value), k ≤ n ∧ i = .int .i64 (k : Int) ∧ wr.ownsRow w.heap.size 3 1 (.slice (some ⟨w.heap.size, 0, none⟩) n n) n xs ∧ Hid (∀ j, j < k → xs[j]? = some (.int .i64 (Z j))) ∧ Below w.heap.size w wr) (fun i _ => n - (intOf i).toNat)
  case atStart => exact ⟨0, _, Nat.zero_le _, rfl, hown1, fun j h => by omega, hb1⟩
  case round =>
    obtain ⟨k, xs, hk, rfl, hown, hs, hbw⟩ := hrel
    by_cases hc : k < n
    · have hcell : wr.cell? ⟨b, o + k, none⟩ = some (.int .i64 (Z k)) := (hbw.cell hlt).trans (HZ.out k hc)
      have hxl : xs.length = n := by have := hown.1; omega
      have hold : ∃ v, wr.cell? ⟨w.heap.size, k, none⟩ = some v := by
        rw [hown.cellAt k (by omega), List.getElem?_eq_getElem (by omega)]
        exact ⟨_, rfl⟩
      obtain ⟨vold, hold⟩ := hold
      have hfz := hown.frozenAt k
      obtain ⟨hown2, hgrow2⟩ := hown.stored k (.int .i64 (Z k))
      have hb2 : Below w.heap.size w (wr.setCell ⟨w.heap.size, k, none⟩ (.int .i64 (Z k))) := hbw.setCell (Nat.le_refl _) _
      have HS : Hid (∀ j, j < k + 1 → (xs.set k (.int .i64 (Z k)))[j]? = some (.int .i64 (Z j))) := fun j hj => by
        rw [List.getElem?_set]
        by_cases e : k = j
        · subst e
          rw [if_pos rfl, if_pos (by omega)]
        · rw [if_neg e]
          exact hs.out j (by omega)
      clear hown hgrow2 hbw hs
      have hown3 : Hid ((wr.setCell ⟨w.heap.size, k, none⟩ (.int .i64 (Z k))).ownsRow w.heap.size 3 1 (.slice (some ⟨w.heap.size, 0, none⟩) n n) n (xs.set k (.int .i64 (Z k)))) := hown2
      clear hown2
      go_wp2
      go_roundw
      case rel => exact ⟨k + 1, _, by omega, by go_num, hown3.out, HS, hb2⟩
      case measure => simp [intOf]; omega
    · obtain rfl : k = n := by omega
      go_wp2
      go_ret
      exact ⟨rfl, ⟨xs, hown, hs.out⟩, hbw⟩

/-- What is known of a slice that came in: nil, or its cells where there is an element. -/
def InI (w : World) (a : Option Addr) (n c : Nat) (Z : Nat → Int) : Prop :=
  (a = none ∧ n = 0 ∧ c = 0) ∨ ((∃ x, a = some x) ∧ (0 < n → ∃ b o, a = some ⟨b, o, none⟩ ∧ b < w.heap.size ∧ ∀ j, j < n → w.cell? ⟨b, o + j, none⟩ = some (.int .i64 (Z j))))

theorem copyI_any (a : Option Addr) (n c : Nat) (Z : Nat → Int) (w : World) (hn : n ≤ 10000000) (h : InI w a n c Z) :
    Calls Try.prog 10 #[.slice a n c] w fun e w' => ∃ a' c', e = .returned (.slice a' n c') ∧ c' = n ∧ (a' = none → n = 0) ∧
      (0 < n → a' = some ⟨w.heap.size, 0, none⟩ ∧ c' = n ∧ ∃ xs, w'.ownsRow w.heap.size 3 1 (.slice (some ⟨w.heap.size, 0, none⟩) n n) n xs ∧ ∀ j, j < n → xs[j]? = some (.int .i64 (Z j))) ∧ Below w.heap.size w w' := by
  rcases h with ⟨rfl, rfl, rfl⟩ | ⟨⟨x, rfl⟩, h⟩
  · refine (copyI_nil w).mono fun e w' ⟨he, hw⟩ => ?_
    subst hw
    exact ⟨none, 0, he, rfl, fun _ => rfl, fun h => by omega, Below.refl _ _⟩
  · by_cases h0 : n = 0
    · subst h0
      refine (copyI_zero x c w).mono fun e w' ⟨he, hb⟩ => ?_
      exact ⟨_, _, he, rfl, (fun h => by cases h), fun h => by omega, hb⟩
    · obtain ⟨b, o, hx, hlt, hc⟩ := h (by omega)
      cases hx
      refine (copyI_row b o n c Z w hn hlt hc).mono fun e w' ⟨he, hxs, hb⟩ => ?_
      exact ⟨_, _, he, rfl, (fun h => by cases h), fun _ => ⟨rfl, rfl, hxs⟩, hb⟩

set_option maxHeartbeats 400000 in
theorem copyB_nil (w : World) : Calls Try.prog 11 #[.slice none 0 0] w fun e w' => e = .returned (.slice none 0 0) ∧ w' = w := by
  have hnl := fun wx => Lib.run_eql_slice_nil (P := Try.prog) wx 23 5 none 0 0 0 0 Try.underlying23
  go_enter Try.func11, Try.ntmps11
  go_wp2
  go_ret
  exact ⟨rfl, rfl⟩

set_option maxHeartbeats 400000 in
theorem copyB_zero (x : Addr) (c : Nat) (w : World) : Calls Try.prog 11 #[.slice (some x) 0 c] w fun e w' => e = .returned (.slice (some ⟨w.heap.size, 0, none⟩) 0 0) ∧
    Below w.heap.size w w' := by
  obtain ⟨i0, hi, hz0, hz1, hz2⟩ := info_parts info5
  have hnl := fun wx => Lib.run_eql_slice_nil (P := Try.prog) wx 23 5 (some x) 0 c 0 0 Try.underlying23
  go_enter Try.func11, Try.ntmps11
  go_wp2_with (at_make; refine wpList_make_full _ rfl _ _ 23 rfl w.heap.size 5 i0 (.int .u8 0) 1 Try.underlying23 hi hz0 hz1 .i64 .i64 _ _ 0 rfl rfl ?c1 ?c2 ?c3 ?c4 ?c5 ?_)
  case c1 => rfl
  case c2 => rfl
  case c3 => omega
  case c4 => exact Nat.zero_le _
  case c5 => exact Nat.le_refl _
  intro w1 hown1 hgrow1
  have hb1 : Below w.heap.size w w1 := (Below.refl _ w).grown hgrow1 (Nat.le_refl _) (fun k hk => by simp at hk)
  clear hgrow1
  go_wp2
  refine wp_loop_rounds 1 ?_
  rw [rounds_succ]
  go_wp2
  go_ret
  exact ⟨rfl, hb1⟩

set_option maxHeartbeats 1000000 in
theorem copyB_row (b o n c : Nat) (Z : Nat → Int) (w : World) (hn : n ≤ 10000000) (hlt : b < w.heap.size) (hZ : ∀ j, j < n → w.cell? ⟨b, o + j, none⟩ = some (.int .u8 (Z j))) :
    Calls Try.prog 11 #[.slice (some ⟨b, o, none⟩) n c] w fun e w' => e = .returned (.slice (some ⟨w.heap.size, 0, none⟩) n n) ∧
      (∃ xs, w'.ownsRow w.heap.size 5 1 (.slice (some ⟨w.heap.size, 0, none⟩) n n) n xs ∧ ∀ j, j < n → xs[j]? = some (.int .u8 (Z j))) ∧ Below w.heap.size w w' := by
  obtain ⟨i0, hi, hz0, hz1, hz2⟩ := info_parts info5
  have HZ : Hid (∀ j, j < n → w.cell? ⟨b, o + j, none⟩ = some (.int .u8 (Z j))) := hZ
  clear hZ
  have hnl := fun wx => Lib.run_eql_slice_nil (P := Try.prog) wx 23 5 (some ⟨b, o, none⟩) n c 0 0 Try.underlying23
  go_enter Try.func11, Try.ntmps11
  go_wp2_with (at_make; refine wpList_make_full _ rfl _ _ 23 rfl w.heap.size 5 i0 (.int .u8 0) 1 Try.underlying23 hi hz0 hz1 .i64 .i64 _ _ n rfl rfl ?c1 ?c2 ?c3 ?c4 ?c5 ?_)
  case c1 => rfl
  case c2 => rfl
  case c3 => rw [hz2]; omega
  case c4 => unfold maxLen; omega
  case c5 => exact Nat.le_refl _
  intro w1 hown1 hgrow1
  have hb1 : Below w.heap.size w w1 := (Below.refl _ w).grown hgrow1 (Nat.le_refl _) (fun k hk => by simp at hk)
  clear hgrow1 hnl
  go_wp2
  go_loopw [4] (fun i wr => ∃ (k : Nat) (xs : List Value), k ≤ n ∧ i = .int .i64 (k : Int) ∧ wr.ownsRow w.heap.size 5 1 (.slice (some ⟨w.heap.size, 0, none⟩) n n) n xs ∧ Hid (∀ j, j < k → xs[j]? = some (.int .u8 (Z j))) ∧ Below w.heap.size w wr) (fun i _ => n - (intOf i).toNat)
  case atStart => exact ⟨0, _, Nat.zero_le _, rfl, hown1, fun j h => by omega, hb1⟩
  case round =>
    obtain ⟨k, xs, hk, rfl, hown, hs, hbw⟩ := hrel
    by_cases hc : k < n
    · have hcell : wr.cell? ⟨b, o + k, none⟩ = some (.int .u8 (Z k)) := (hbw.cell hlt).trans (HZ.out k hc)
      have hxl : xs.length = n := by have := hown.1; omega
      have hold : ∃ v, wr.cell? ⟨w.heap.size, k, none⟩ = some v := by
        rw [hown.cellAt k (by omega), List.getElem?_eq_getElem (by omega)]
        exact ⟨_, rfl⟩
      obtain ⟨vold, hold⟩ := hold
      have hfz := hown.frozenAt k
      obtain ⟨hown2, hgrow2⟩ := hown.stored k (.int .u8 (Z k))
      have hb2 : Below w.heap.size w (wr.setCell ⟨w.heap.size, k, none⟩ (.int .u8 (Z k))) := hbw.setCell (Nat.le_refl _) _
      have HS : Hid (∀ j, j < k + 1 → (xs.set k (.int .u8 (Z k)))[j]? = some (.int .u8 (Z j))) := fun j hj => by
        rw [List.getElem?_set]
        by_cases e : k = j
        · subst e
          rw [if_pos rfl, if_pos (by omega)]
        · rw [if_neg e]
          exact hs.out j (by omega)
      clear hown hgrow2 hbw hs
      have hown3 : Hid ((wr.setCell ⟨w.heap.size, k, none⟩ (.int .u8 (Z k))).ownsRow w.heap.size 5 1 (.slice (some ⟨w.heap.size, 0, none⟩) n n) n (xs.set k (.int .u8 (Z k)))) := hown2
      clear hown2
      go_wp2
      go_roundw
      case rel => exact ⟨k + 1, _, by omega, by go_num, hown3.out, HS, hb2⟩
      case measure => simp [intOf]; omega
    · obtain rfl : k = n := by omega
      go_wp2
      go_ret
      exact ⟨rfl, ⟨xs, hown, hs.out⟩, hbw⟩

/-- What is known of a slice that came in: nil, or its cells where there is an element. -/
def InB (w : World) (a : Option Addr) (n c : Nat) (Z : Nat → Int) : Prop :=
  (a = none ∧ n = 0 ∧ c = 0) ∨ ((∃ x, a = some x) ∧ (0 < n → ∃ b o, a = some ⟨b, o, none⟩ ∧ b < w.heap.size ∧ ∀ j, j < n → w.cell? ⟨b, o + j, none⟩ = some (.int .u8 (Z j))))

theorem copyB_any (a : Option Addr) (n c : Nat) (Z : Nat → Int) (w : World) (hn : n ≤ 10000000) (h : InB w a n c Z) :
    Calls Try.prog 11 #[.slice a n c] w fun e w' => ∃ a' c', e = .returned (.slice a' n c') ∧ c' = n ∧ (a' = none → n = 0) ∧
      (0 < n → a' = some ⟨w.heap.size, 0, none⟩ ∧ c' = n ∧ ∃ xs, w'.ownsRow w.heap.size 5 1 (.slice (some ⟨w.heap.size, 0, none⟩) n n) n xs ∧ ∀ j, j < n → xs[j]? = some (.int .u8 (Z j))) ∧ Below w.heap.size w w' := by
  rcases h with ⟨rfl, rfl, rfl⟩ | ⟨⟨x, rfl⟩, h⟩
  · refine (copyB_nil w).mono fun e w' ⟨he, hw⟩ => ?_
    subst hw
    exact ⟨none, 0, he, rfl, fun _ => rfl, fun h => by omega, Below.refl _ _⟩
  · by_cases h0 : n = 0
    · subst h0
      refine (copyB_zero x c w).mono fun e w' ⟨he, hb⟩ => ?_
      exact ⟨_, _, he, rfl, (fun h => by cases h), fun h => by omega, hb⟩
    · obtain ⟨b, o, hx, hlt, hc⟩ := h (by omega)
      cases hx
      refine (copyB_row b o n c Z w hn hlt hc).mono fun e w' ⟨he, hxs, hb⟩ => ?_
      exact ⟨_, _, he, rfl, (fun h => by cases h), fun _ => ⟨rfl, rfl, hxs⟩, hb⟩

#print axioms copyI_any
#print axioms copyB_any
end Go.Proofs.Qxb6000533a
