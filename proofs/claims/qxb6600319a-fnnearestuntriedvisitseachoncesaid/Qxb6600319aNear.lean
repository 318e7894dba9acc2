/-
  The walks of nearestUntried, its shim, and nearestModel.
-/
import Derived.Test.Qxb6600319aShelf
import Derived.Test.Qxb6600319aNearPlain
import Derived.WalkKit
import Derived.WalkSpells
import Derived.WalkLawsBesides
import Derived.Below
namespace Go.Proofs.Qxb6600319a
open Go.RowKit

theorem ret_n {a b : Int} (h : a = b) : Ending.returned (.int .i64 a) = .returned (.int .i64 b) := by rw [h]

set_option maxHeartbeats 1000000 in
/-- The two loops, the split given. -/
theorem near_core (b1 o1 n c1 b2 o2 m c2 lo sp : Nat) (Z : Nat → Int) (B : Nat → Bool) (pt : Int) (fl : Bool) (w : World) (hm : m ≤ 100000) (hnm : n ≤ m) (hlo : lo ≤ n) (hsp : sp ≤ n)
    (h1 : ∀ j, j < sp → Z j < pt) (h2 : ∀ j, sp ≤ j → j < n → pt ≤ Z j)
    (hB : ∀ j, j < m → w.cell? ⟨b2, o2 + j, none⟩ = some (.bool (B j)))
    (H : Hid (Calls Try.prog 35 #[.slice (some ⟨b1, o1, none⟩) n c1, .int .i64 pt] w fun e w' => e = .returned (.tuple #[.int .i64 sp, .bool fl]) ∧ ∃ q, w' = w.drewN q)) :
    Calls Try.prog 32 #[.slice (some ⟨b1, o1, none⟩) n c1, .slice (some ⟨b2, o2, none⟩) m c2, .int .i64 lo, .int .i64 pt] w fun e w' => (∃ r, e = .returned (.int .i64 r) ∧ Near Z B n lo pt r) ∧ ∃ q, w' = w.drewN q := by
  have H1 : Hid (∀ j, j < sp → Z j < pt) := h1
  have H2 : Hid (∀ j, sp ≤ j → j < n → pt ≤ Z j) := h2
  have HB : Hid (∀ j, j < m → w.cell? ⟨b2, o2 + j, none⟩ = some (.bool (B j))) := hB
  clear h1 h2 hB
  go_enter Try.func32, Try.ntmps32
  go_wp2_with (go_at_call 35; refine H.out.mono ?_)
  rintro e w1 ⟨rfl, q, rfl⟩
  clear H
  go_wp2
  go_loop [11] (fun i => ∃ k : Nat, k ≤ sp ∧ i = .int .i64 ((k : Int) - 1) ∧ Hid (∀ j, k ≤ j → j < sp → B j = true)) (fun i => (intOf i + 1).toNat)
  case atStart => exact ⟨sp, Nat.le_refl _, rfl, fun j a b => by omega⟩
  case round =>
    obtain ⟨k, hk, rfl, hs⟩ := hrel
    by_cases hc : lo + 1 ≤ k
    · obtain ⟨t, rfl⟩ : ∃ t, k = t + 1 := ⟨k - 1, by omega⟩
      have hcell := HB.out t (by omega)
      rw [show (((t + 1 : Nat) : Int) - 1) = (t : Int) from by omega]
      cases hb : B t
      · have HN : Hid (Near Z B n lo pt t) := near_down H1.out H2.out hsp (by omega) (by omega) (fun j a b => hs.out j (by omega) b) hb
        rw [hb] at hcell
        clear hb
        go_wp2
        go_ret
        exact ⟨⟨_, rfl, HN.out⟩, q, rfl⟩
      · have HS : Hid (∀ j, t ≤ j → j < sp → B j = true) := fun j a b => by
          rcases Nat.lt_or_ge t j with h | h
          · exact hs.out j (by omega) b
          · obtain rfl : j = t := by omega
            exact hb
        rw [hb] at hcell
        clear hb hs
        go_wp2
        go_round
        case rel => exact ⟨t, by omega, by go_num, HS⟩
        case measure => simp [intOf]
    · have HS : Hid (∀ j, lo ≤ j → j < sp → B j = true) := fun j a b => hs.out j (by omega) b
      clear hs
      go_wp2
      go_loop [12] (fun i => ∃ k : Nat, sp ≤ k ∧ lo ≤ k ∧ k ≤ n ∧ i = .int .i64 (k : Int) ∧ Hid (∀ j, lo ≤ j → j < k → B j = true)) (fun i => n - (intOf i).toNat)
      case atStart =>
        refine ⟨max sp lo, by omega, by omega, by omega, ?_, fun j a b => HS.out j a (by omega)⟩
        rw [show ((max sp lo : Nat) : Int) = max (sp : Int) (lo : Int) from by omega]
      case round =>
        obtain ⟨t, ht1, ht2, ht3, rfl, hs⟩ := hrel
        by_cases hc' : t < n
        · have hcell := HB.out t (by omega)
          cases hb : B t
          · have HN : Hid (Near Z B n lo pt t) := near_up H2.out hc' ht1 ht2 hs.out hb
            rw [hb] at hcell
            clear hb
            go_wp2
            go_ret
            exact ⟨⟨_, rfl, HN.out⟩, q, rfl⟩
          · have HS' : Hid (∀ j, lo ≤ j → j < t + 1 → B j = true) := fun j a b => by
              rcases Nat.lt_or_ge j t with h | h
              · exact hs.out j a h
              · obtain rfl : j = t := by omega
                exact hb
            rw [hb] at hcell
            clear hb hs HS
            go_wp2
            go_round
            case rel => exact ⟨t + 1, by omega, by omega, by omega, by go_num, HS'⟩
            case measure => simp [intOf]; omega
        · have HN : Hid (Near Z B n lo pt (-1)) := near_none (k := t) (by omega) hs.out
          go_wp2
          go_ret
          exact ⟨⟨_, rfl, HN.out⟩, q, rfl⟩

set_option maxHeartbeats 400000 in
theorem near_empty (a1 a2 : Option Addr) (c1 m c2 : Nat) (Z : Nat → Int) (B : Nat → Bool) (pt : Int) (w : World) :
    Calls Try.prog 32 #[.slice a1 0 c1, .slice a2 m c2, .int .i64 0, .int .i64 pt] w fun e w' => (∃ r, e = .returned (.int .i64 r) ∧ Near Z B 0 0 pt r) ∧ ∃ q, w' = w.drewN q := by
  go_enter Try.func32, Try.ntmps32
  go_wp2_with (go_at_call 35; refine (Try.slices_BinarySearch_int_empty _ _ _ _).mono ?_; rintro e w' ⟨rfl, rfl⟩)
  refine wp_loop_rounds 1 ?_
  rw [rounds_succ]
  go_wp2
  refine wp_loop_rounds 1 ?_
  rw [rounds_succ]
  go_wp2
  go_ret
  exact ⟨⟨_, rfl, near_none (k := 0) (Nat.le_refl _) (fun j a b => by omega)⟩, 0, rfl⟩

/-- Ends and tried as rows of cells; nothing is asked where there is none. -/
structure Rows2 (w : World) (a1 : Option Addr) (n : Nat) (a2 : Option Addr) (m : Nat) (Z : Nat → Int) (B : Nat → Bool) : Prop where
  big : m ≤ 100000
  le : n ≤ m
  ends : 0 < n → ∃ b o, a1 = some ⟨b, o, none⟩ ∧ ∀ j, j < n → w.cell? ⟨b, o + j, none⟩ = some (.int .i64 (Z j))
  tried : 0 < n → ∃ b o, a2 = some ⟨b, o, none⟩ ∧ ∀ j, j < m → w.cell? ⟨b, o + j, none⟩ = some (.bool (B j))

theorem near_any (a1 a2 : Option Addr) (n c1 m c2 lo : Nat) (Z : Nat → Int) (B : Nat → Bool) (pt : Int) (w : World) (h : Rows2 w a1 n a2 m Z B) (hlo : lo ≤ n) (hs : ∀ i, i + 1 < n → Z i ≤ Z (i + 1)) :
    Calls Try.prog 32 #[.slice a1 n c1, .slice a2 m c2, .int .i64 lo, .int .i64 pt] w fun e w' => (∃ r, e = .returned (.int .i64 r) ∧ Near Z B n lo pt r) ∧ ∃ q, w' = w.drewN q := by
  by_cases hn : n = 0
  · subst hn
    obtain rfl : lo = 0 := by omega
    exact near_empty a1 a2 c1 m c2 Z B pt w
  · obtain ⟨b1, o1, rfl, hc1⟩ := h.ends (by omega)
    obtain ⟨b2, o2, rfl, hc2⟩ := h.tried (by omega)
    have hle := h.le
    have hbig := h.big
    have hl : ((List.range n).map Z).length = n := by simp
    have ht : ((List.range n).map Z).take n = (List.range n).map Z := List.take_of_length_le (by omega)
    have hsz := sorted_of Z n hs
    obtain ⟨g1, g2⟩ := count_split ((List.range n).map Z) pt hsz
    have hcl : ((List.range n).map Z).countP (· < pt) ≤ n := by
      have := List.countP_le_length (p := fun x => decide (x < pt)) (l := (List.range n).map Z)
      omega
    have H := Try.slices_BinarySearch_int b1 o1 n c1 ((List.range n).map Z) pt w (by omega) (by omega) (fun j hj => by
      rw [hc1 j (by omega)]
      simp [List.getD, show j < n from by omega]) (by rw [ht]; exact hsz)
    rw [ht] at H
    refine near_core b1 o1 n c1 b2 o2 m c2 lo _ Z B pt _ w hbig hle hlo hcl ?_ ?_ hc2 H
    · intro j hj
      have := g1 j (by omega) hj
      simpa using this
    · intro j hj hjn
      have := g2 j (by omega) hj
      simpa using this

set_option maxHeartbeats 400000 in
theorem shimN_any (a1 a2 : Option Addr) (n c1 m c2 lo : Nat) (Z : Nat → Int) (B : Nat → Bool) (pt : Int) (w : World) (h : Rows2 w a1 n a2 m Z B) (hlo : lo ≤ n) (hs : ∀ i, i + 1 < n → Z i ≤ Z (i + 1)) :
    Calls Try.prog 25 #[.slice a1 n c1, .slice a2 m c2, .int .i64 lo, .int .i64 pt] w fun e w' => (∃ r, e = .returned (.int .i64 r) ∧ Near Z B n lo pt r) ∧ ∃ q, w' = w.drewN q := by
  have H : Hid (Calls Try.prog 32 #[.slice a1 n c1, .slice a2 m c2, .int .i64 lo, .int .i64 pt] w fun e w' => (∃ r, e = .returned (.int .i64 r) ∧ Near Z B n lo pt r) ∧ ∃ q, w' = w.drewN q) := near_any a1 a2 n c1 m c2 lo Z B pt w h hlo hs
  clear h hs hlo
  go_enter Try.func25, Try.ntmps25
  go_wp2_with (go_at_call 32; refine H.out.mono ?_)
  rintro e w1 ⟨⟨r, rfl, hr⟩, q, rfl⟩
  have HR : Hid (Near Z B n lo pt r) := hr
  clear hr H
  go_wp2
  go_ret
  exact ⟨⟨_, rfl, HR.out⟩, q, rfl⟩

set_option maxHeartbeats 1000000 in
theorem modelN_core (b1 o1 n c1 b2 o2 m c2 lo : Nat) (Z : Nat → Int) (B : Nat → Bool) (pt : Int) (w : World) (hm : m ≤ 100000) (hnm : n ≤ m) (hlo : lo ≤ n)
    (hZ : ∀ j, j < n → w.cell? ⟨b1, o1 + j, none⟩ = some (.int .i64 (Z j))) (hB : ∀ j, j < m → w.cell? ⟨b2, o2 + j, none⟩ = some (.bool (B j))) :
    Calls Try.prog 26 #[.slice (some ⟨b1, o1, none⟩) n c1, .slice (some ⟨b2, o2, none⟩) m c2, .int .i64 lo, .int .i64 pt] w fun e w' => (∃ r, e = .returned (.int .i64 r) ∧ Near Z B n lo pt r) ∧ w' = w := by
  have HZ : Hid (∀ j, j < n → w.cell? ⟨b1, o1 + j, none⟩ = some (.int .i64 (Z j))) := hZ
  have HB : Hid (∀ j, j < m → w.cell? ⟨b2, o2 + j, none⟩ = some (.bool (B j))) := hB
  clear hZ hB
  go_enter Try.func26, Try.ntmps26
  go_wp2
  go_loop [9, 10, 11] (fun b a i => ∃ (k : Nat) (bI aI : Int), lo ≤ k ∧ k ≤ n ∧ i = .int .i64 (k : Int) ∧ b = .int .i64 bI ∧ a = .int .i64 aI ∧ Scan Z B lo k pt bI aI) (fun _ _ i => n - (intOf i).toNat)
  case atStart => exact ⟨lo, -1, -1, Nat.le_refl _, hlo, rfl, rfl, rfl, scan_start Z B lo pt⟩
  case round =>
    obtain ⟨k, bI, aI, hk1, hk2, rfl, rfl, rfl, hs⟩ := hrel
    obtain ⟨x1, x2, x3, x4⟩ := scan_bd hs
    by_cases hc : k < n
    · have hcB := HB.out k (by omega)
      have hcZ := HZ.out k (by omega)
      cases hb : B k
      · rw [hb] at hcB
        by_cases hz : Z k < pt
        · have hn := scan_before hs hk1 hb hz
          clear hs hb
          go_wp2
          go_round
          case rel => exact ⟨k + 1, k, aI, by omega, by omega, by go_num, rfl, rfl, hn⟩
          case measure => simp [intOf]; omega
        · by_cases ha : aI < 0
          · have hn := scan_after hs hk1 hb (by omega) ha
            clear hs hb
            go_wp2
            go_round
            case rel => exact ⟨k + 1, bI, k, by omega, by omega, by go_num, rfl, rfl, hn⟩
            case measure => simp [intOf]; omega
          · have hn := scan_skip hs (by omega) (by omega)
            clear hs hb
            go_wp2
            go_round
            case rel => exact ⟨k + 1, bI, aI, by omega, by omega, by go_num, rfl, rfl, hn⟩
            case measure => simp [intOf]; omega
      · rw [hb] at hcB
        have hn := scan_tried hs hb
        clear hs hb
        go_wp2
        go_round
        case rel => exact ⟨k + 1, bI, aI, by omega, by omega, by go_num, rfl, rfl, hn⟩
        case measure => simp [intOf]; omega
    · obtain rfl : k = n := by omega
      have hd := scan_done hs
      clear hs
      by_cases hb0 : 0 ≤ bI
      · rw [if_pos hb0] at hd
        have HD : Hid (Near Z B k lo pt bI) := hd
        clear hd
        go_wp2
        go_ret
        exact ⟨⟨_, rfl, HD.out⟩, rfl⟩
      · rw [if_neg hb0] at hd
        have HD : Hid (Near Z B k lo pt aI) := hd
        clear hd
        go_wp2
        go_ret
        exact ⟨⟨_, rfl, HD.out⟩, rfl⟩

set_option maxHeartbeats 400000 in
theorem modelN_empty (a1 a2 : Option Addr) (c1 m c2 : Nat) (Z : Nat → Int) (B : Nat → Bool) (pt : Int) (w : World) :
    Calls Try.prog 26 #[.slice a1 0 c1, .slice a2 m c2, .int .i64 0, .int .i64 pt] w fun e w' => (∃ r, e = .returned (.int .i64 r) ∧ Near Z B 0 0 pt r) ∧ w' = w := by
  go_enter Try.func26, Try.ntmps26
  go_wp2
  refine wp_loop_rounds 1 ?_
  rw [rounds_succ]
  go_wp2
  go_ret
  exact ⟨⟨_, rfl, near_none (k := 0) (Nat.le_refl _) (fun j a b => by omega)⟩, rfl⟩

theorem modelN_any (a1 a2 : Option Addr) (n c1 m c2 lo : Nat) (Z : Nat → Int) (B : Nat → Bool) (pt : Int) (w : World) (h : Rows2 w a1 n a2 m Z B) (hlo : lo ≤ n) :
    Calls Try.prog 26 #[.slice a1 n c1, .slice a2 m c2, .int .i64 lo, .int .i64 pt] w fun e w' => (∃ r, e = .returned (.int .i64 r) ∧ Near Z B n lo pt r) ∧ w' = w := by
  by_cases hn : n = 0
  · subst hn
    obtain rfl : lo = 0 := by omega
    exact modelN_empty a1 a2 c1 m c2 Z B pt w
  · obtain ⟨b1, o1, rfl, hc1⟩ := h.ends (by omega)
    obtain ⟨b2, o2, rfl, hc2⟩ := h.tried (by omega)
    exact modelN_core b1 o1 n c1 b2 o2 m c2 lo Z B pt w h.big h.le hlo hc1 hc2
#print axioms shimN_any
#print axioms modelN_any
end Go.Proofs.Qxb6600319a
