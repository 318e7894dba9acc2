/-
  The walks of ZZSerialOrder and zzFinishes; serialOrder at no slot.
-/
import Derived.Test.Qxb6000533aSerial
import Derived.WalkSmall
namespace Go.Proofs.Qxb6000533a
open Go.RowKit

theorem ret_b {a b : Bool} (h : a = b) : Ending.returned (.bool a) = .returned (.bool b) := by rw [h]

set_option maxHeartbeats 400000 in
theorem fin_any (x : Int) (w : World) : Calls Try.prog 13 #[.int .u8 x] w fun e w' => e = .returned (.bool (fin x)) ∧ w' = w := by
  by_cases h0 : x = 0
  · subst h0
    go_enter Try.func13, Try.ntmps13
    go_wp2
    go_ret
    exact ⟨ret_b rfl, rfl⟩
  · by_cases h2 : x = 2
    · subst h2
      go_enter Try.func13, Try.ntmps13
      go_wp2
      go_ret
      exact ⟨ret_b rfl, rfl⟩
    · by_cases h3 : x = 3
      · subst h3
        go_enter Try.func13, Try.ntmps13
        go_wp2
        go_ret
        exact ⟨ret_b rfl, rfl⟩
      · by_cases h4 : x = 4
        · subst h4
          go_enter Try.func13, Try.ntmps13
          go_wp2
          go_ret
          exact ⟨ret_b rfl, rfl⟩
        · have e0 : (x == 0) = false := by simpa using h0
          have e2 : (x == 2) = false := by simpa using h2
          have e3 : (x == 3) = false := by simpa using h3
          have e4 : (x == 4) = false := by simpa using h4
          have HF : Hid (fin x = false) := by
            show fin x = false
            simp [fin, h0, h2, h3, h4]
          clear h0 h2 h3 h4
          go_enter Try.func13, Try.ntmps13
          go_wp2
          go_ret
          exact ⟨ret_b (by rw [HF.out]), rfl⟩

set_option maxHeartbeats 400000 in
theorem serial_none (a1 : Option Addr) (l : Nat) (a2 : Option Addr) (c2 : Nat) (w : World) (hl : l ≤ 100000) :
    Calls Try.prog 29 #[.slice a1 l l, .slice a2 0 c2] w fun e w' => e = .returned (.slice a1 l l) ∧ w' = w := by
  go_enter Try.func29, Try.ntmps29
  go_wp2_with (go_at_call 32; refine (Try.grow_room a1 l l 0 _ (Nat.le_refl _) (by omega) (by omega) (by omega)).mono ?_; rintro e w' ⟨rfl, rfl⟩)
  refine wp_loop_rounds 1 ?_
  rw [rounds_succ]
  go_wp2
  refine wp_loop_rounds 1 ?_
  rw [rounds_succ]
  go_wp2
  refine wp_loop_rounds 1 ?_
  rw [rounds_succ]
  go_wp2
  refine wp_loop_rounds 1 ?_
  rw [rounds_succ]
  go_wp2
  go_ret
  exact ⟨rfl, rfl⟩

set_option maxHeartbeats 400000 in
theorem zser_none (a1 : Option Addr) (l : Nat) (a2 : Option Addr) (c2 : Nat) (w : World) (hl : l ≤ 100000) :
    Calls Try.prog 12 #[.slice a1 l l, .slice a2 0 c2] w fun e w' => e = .returned (.slice a1 l l) ∧ Below w.heap.size w w' := by
  obtain ⟨i0, hi, hz0, hz1, hz2⟩ := info_parts info52
  go_enter Try.func12, Try.ntmps12
  go_wp2_with (at_make; refine wpList_make_full _ rfl _ _ 51 rfl w.heap.size 52 i0 (.int .u8 0) 1 Try.underlying51 hi hz0 hz1 .i64 .i64 _ _ 0 rfl rfl ?c1 ?c2 ?c3 ?c4 ?c5 ?_)
  case c1 => rfl
  case c2 => rfl
  case c3 => omega
  case c4 => exact Nat.zero_le _
  case c5 => exact Nat.le_refl _
  intro w1 hown1 hgrow1
  have hb1 : Below w.heap.size w w1 := (Below.refl _ w).grown hgrow1 (Nat.le_refl _) (fun k hk => by simp at hk)
  clear hgrow1 hown1
  go_wp2
  refine wp_loop_rounds 1 ?_
  rw [rounds_succ]
  go_wp2_with (go_at_call 29; refine (serial_none a1 l _ _ _ hl).mono ?_)
  rintro e w2 ⟨rfl, rfl⟩
  go_wp2
  go_ret
  exact ⟨rfl, hb1⟩

/-- What comes back: what was handed in, then the positions. -/
def Out (B l m : Nat) (Z S : Nat → Int) (w : World) (v : Value) (w' : World) : Prop :=
  ∃ (app : List Int) (B' : Nat), w'.ownsRow B' 3 1 v (l + app.length) (pre l Z ++ app.map (Value.int .i64)) ∧ Lst m app (fun j => fin (S j)) ∧ app.length ≤ 4 * m ∧ Below B w w'

set_option maxHeartbeats 1000000 in
theorem zser_core (a1 : Option Addr) (l g m c : Nat) (Z S : Nat → Int) (w : World) (hl : l ≤ 100000) (hm0 : 0 < m) (hm : m ≤ 300000) (hg : g < w.heap.size) (hnil : a1 = none → l = 0)
    (h1 : 0 < l → ∃ g1, a1 = some ⟨g1, 0, none⟩ ∧ g1 < w.heap.size ∧ ∀ j, j < l → w.cell? ⟨g1, j, none⟩ = some (.int .i64 (Z j)))
    (hS : ∀ j, j < m → w.cell? ⟨g, j, none⟩ = some (.int .u8 (S j))) :
    Calls Try.prog 12 #[.slice a1 l l, .slice (some ⟨g, 0, none⟩) m c] w fun e w' => ∃ v, e = .returned v ∧ Out w.heap.size l m Z S w v w' := by
  obtain ⟨i0, hi, hz0, hz1, hz2⟩ := info_parts info52
  have HS : Hid (∀ j, j < m → w.cell? ⟨g, j, none⟩ = some (.int .u8 (S j))) := hS
  have H1 : Hid (0 < l → ∃ g1, a1 = some ⟨g1, 0, none⟩ ∧ g1 < w.heap.size ∧ ∀ j, j < l → w.cell? ⟨g1, j, none⟩ = some (.int .i64 (Z j))) := h1
  have HN : Hid (a1 = none → l = 0) := hnil
  clear hS h1 hnil
  go_enter Try.func12, Try.ntmps12
  go_wp2_with (at_make; refine wpList_make_full _ rfl _ _ 51 rfl w.heap.size 52 i0 (.int .u8 0) 1 Try.underlying51 hi hz0 hz1 .i64 .i64 _ _ m rfl rfl ?c1 ?c2 ?c3 ?c4 ?c5 ?_)
  case c1 => rfl
  case c2 => rfl
  case c3 => rw [hz2]; omega
  case c4 => unfold maxLen; omega
  case c5 => exact Nat.le_refl _
  intro w1 hown1 hgrow1
  have hb1 : Below w.heap.size w w1 := (Below.refl _ w).grown hgrow1 (Nat.le_refl _) (fun k hk => by simp at hk)
  clear hgrow1
  go_wp2
  go_loopw [6] (fun i wr => ∃ (k : Nat) (xs : List Value), k ≤ m ∧ i = .int .i64 (k : Int) ∧ wr.ownsRow w.heap.size 52 1 (.slice (some ⟨w.heap.size, 0, none⟩) m m) m xs ∧ Hid (∀ j, j < k → xs[j]? = some (.int .u8 (S j))) ∧ Below w.heap.size w wr) (fun i _ => m - (intOf i).toNat)
  case atStart => exact ⟨0, _, Nat.zero_le _, rfl, hown1, fun j h => by omega, hb1⟩
  case round =>
    clear hown1 hb1
    obtain ⟨k, xs, hk, rfl, hown, hs, hbw⟩ := hrel
    by_cases hc : k < m
    · have hcell : wr.cell? ⟨g, k, none⟩ = some (.int .u8 (S k)) := (hbw.cell (p := ⟨g, k, none⟩) hg).trans (HS.out k hc)
      have hxl : xs.length = m := by have := hown.1; omega
      have hold : ∃ v, wr.cell? ⟨w.heap.size, k, none⟩ = some v := by
        rw [hown.cellAt k (by omega), List.getElem?_eq_getElem (by omega)]
        exact ⟨_, rfl⟩
      obtain ⟨vold, hold⟩ := hold
      have hfz := hown.frozenAt k
      obtain ⟨hown2, hgrow2⟩ := hown.stored k (.int .u8 (S k))
      have hb2 : Below w.heap.size w (wr.setCell ⟨w.heap.size, k, none⟩ (.int .u8 (S k))) := hbw.setCell (Nat.le_refl _) _
      have HX : Hid (∀ j, j < k + 1 → (xs.set k (.int .u8 (S k)))[j]? = some (.int .u8 (S j))) := fun j hj => by
        rw [List.getElem?_set]
        by_cases e : k = j
        · subst e
          rw [if_pos rfl, if_pos (by omega)]
        · rw [if_neg e]
          exact hs.out j (by omega)
      clear hown hgrow2 hbw hs
      have hown3 : Hid ((wr.setCell ⟨w.heap.size, k, none⟩ (.int .u8 (S k))).ownsRow w.heap.size 52 1 (.slice (some ⟨w.heap.size, 0, none⟩) m m) m (xs.set k (.int .u8 (S k)))) := hown2
      clear hown2
      go_wp2
      go_roundw
      case rel => exact ⟨k + 1, _, by omega, by go_num, hown3.out, HX, hb2⟩
      case measure => simp [intOf]; omega
    · have hkm : m = k := by omega
      subst hkm
      have hgw : w.heap.size < wr.heap.size := (hown.lt w.heap.size rfl).2
      have hSw : ∀ j, j < m → wr.cell? ⟨w.heap.size, j, none⟩ = some (.int .u8 (S j)) := fun j hj => by
        rw [hown.cellAt j (by omega), hs.out j hj]
      have hG : Hid (Calls Try.prog 32 #[.slice a1 l l, .int .i64 m] wr fun e w' => ∃ v, e = .returned v ∧ w'.ownsRow wr.heap.size 3 1 v l (pre l Z) ∧ Below wr.heap.size wr w') :=
        grow_own a1 l m Z wr hl hm0 hm HN.out (fun h => by
          obtain ⟨g1, e, hlt, hcl⟩ := H1.out h
          exact ⟨g1, e, fun j hj => (hbw.cell (p := ⟨g1, j, none⟩) hlt).trans (hcl j hj)⟩)
      have HC : Hid (Calls Try.prog 29 #[.slice a1 l l, .slice (some ⟨w.heap.size, 0, none⟩) m m] wr fun e w' => ∃ v, e = .returned v ∧ Rel wr.heap.size l m (pre l Z) wr (fun j => fin (S j)) (4 * m) v w') :=
        serial_core a1 l w.heap.size m m Z S wr hl hm0 hm hgw hSw hG
      clear hG hSw hown hs
      go_wp2_with (go_at_call 29; refine HC.out.mono ?_)
      rintro e w2 ⟨v, rfl, app, ho, hL, hle, hb⟩
      have HO : Hid (Out w.heap.size l m Z S w v w2) := ⟨app, _, ho, hL, hle, hbw.trans (hb.mono (Nat.le_of_lt hgw))⟩
      clear ho hL hle hb hbw HC
      go_wp2
      go_ret
      exact ⟨_, rfl, HO.out⟩
#print axioms zser_core
end Go.Proofs.Qxb6000533a
