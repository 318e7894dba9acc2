/-
  The walk of FnNearestUntriedVisitsEachOnce.
-/
import Derived.Test.Qxb6600319aScan
namespace Go.Proofs.Qxb6600319a
open Go.RowKit

/-- The two copies in the world as it stands: the ends in block g1, what is tried in block g2, which the call itself made. -/
structure Tw (w : World) (g1 g2 n m : Nat) (Z : Nat → Int) (B : Nat → Bool) : Prop where
  big : m ≤ 100000
  le : n ≤ m
  ne : g1 < g2
  ends : ∀ j, j < n → w.cell? ⟨g1, j, none⟩ = some (.int .i64 (Z j))
  tried : ∃ xs, w.ownsRow g2 4 1 (.slice (some ⟨g2, 0, none⟩) m m) m xs ∧ ∀ j, j < m → xs[j]? = some (.bool (B j))

theorem Tw.cell {w : World} {g1 g2 n m : Nat} {Z : Nat → Int} {B : Nat → Bool} (h : Tw w g1 g2 n m Z B) (j : Nat) (hj : j < m) : w.cell? ⟨g2, j, none⟩ = some (.bool (B j)) := by
  obtain ⟨xs, ho, hx⟩ := h.tried
  rw [ho.cellAt j (by omega), hx j hj]

theorem Tw.frz {w : World} {g1 g2 n m : Nat} {Z : Nat → Int} {B : Nat → Bool} (h : Tw w g1 g2 n m Z B) (j : Nat) : w.frozen? ⟨g2, j, none⟩ = false := by
  obtain ⟨xs, ho, _⟩ := h.tried
  exact ho.frozenAt j

theorem Tw.rows {w : World} {g1 g2 n m : Nat} {Z : Nat → Int} {B : Nat → Bool} (h : Tw w g1 g2 n m Z B) : Rows2 w (some ⟨g1, 0, none⟩) n (some ⟨g2, 0, none⟩) m Z B :=
  ⟨h.big, h.le, fun _ => ⟨_, _, rfl, fun j hj => by rw [Nat.zero_add]; exact h.ends j hj⟩, fun _ => ⟨_, _, rfl, fun j hj => by rw [Nat.zero_add]; exact h.cell j hj⟩⟩

theorem Tw.draws {w : World} {g1 g2 n m : Nat} {Z : Nat → Int} {B : Nat → Bool} (h : Tw w g1 g2 n m Z B) (q : Nat) : Tw (w.drewN q) g1 g2 n m Z B :=
  ⟨h.big, h.le, h.ne, h.ends, h.tried⟩

theorem Tw.put {w : World} {g1 g2 n m : Nat} {Z : Nat → Int} {B : Nat → Bool} (h : Tw w g1 g2 n m Z B) (i : Nat) (hi : i < m) : Tw (w.setCell ⟨g2, i, none⟩ (.bool true)) g1 g2 n m Z (mark B i) := by
  obtain ⟨xs, ho, hx⟩ := h.tried
  refine ⟨h.big, h.le, h.ne, fun j hj => ?_, ?_⟩
  · rw [World.cell?_setCell_other _ _ _ _ (by intro e; have := congrArg Addr.block e; simp at this; have := h.ne; omega)]
    exact h.ends j hj
  · obtain ⟨ho2, _⟩ := ho.stored i (.bool true)
    refine ⟨_, ho2, fun j hj => ?_⟩
    have hl : xs.length = m := by have := ho.1; omega
    rw [List.getElem?_set]
    by_cases e : i = j
    · subst e
      rw [if_pos rfl, if_pos (by omega)]
      simp [mark]
    · rw [if_neg e, hx j hj]
      simp only [mark]
      rw [if_neg (by omega)]

theorem tw_of {w1 w2 w3 : World} {n m : Nat} {Z : Nat → Int} {B : Nat → Bool} (hm : m ≤ 100000) (hnm : n ≤ m)
    (h1 : ∃ xs, w2.ownsRow w1.heap.size 3 1 (.slice (some ⟨w1.heap.size, 0, none⟩) n n) n xs ∧ ∀ j, j < n → xs[j]? = some (.int .i64 (Z j)))
    (h2 : ∃ xs, w3.ownsRow w2.heap.size 4 1 (.slice (some ⟨w2.heap.size, 0, none⟩) m m) m xs ∧ ∀ j, j < m → xs[j]? = some (.bool (B j)))
    (hb : Below w2.heap.size w2 w3) : Tw w3 w1.heap.size w2.heap.size n m Z B := by
  obtain ⟨xs, ho, hx⟩ := h1
  have hlt := (ho.lt w1.heap.size rfl).2
  refine ⟨hm, hnm, hlt, fun j hj => ?_, h2⟩
  rw [hb.cell (p := ⟨w1.heap.size, j, none⟩) hlt, ho.cellAt j (by omega), hx j hj]

theorem zz27 (a1 a2 : Option Addr) (n c1 m c2 : Nat) (s p : Int) (w : World) (hn : n ≤ maxLen) (hm : m ≤ maxLen) :
    Calls Try.prog 27 #[.slice a1 n c1, .slice a2 m c2, .int .i64 s, .int .i64 p] w fun en w' => ∃ b : Bool, en = .returned (.bool b) ∧ w' = w := by
  unfold maxLen at hn hm
  go_enter Try.func27, Try.ntmps27
  go_wp2
  all_goals
    go_ret
    exact ⟨_, rfl, rfl⟩

set_option maxHeartbeats 1000000 in
theorem visit_easy (a1 a2 : Option Addr) (n c1 m c2 : Nat) (s p : Int) (w : World) (hn : n ≤ maxLen) (hm : m ≤ maxLen)
    (h : 1024 < n ∨ 1024 < m ∨ m < n ∨ s < 0 ∨ (n : Int) < s) :
    Calls Try.prog 9 #[.slice a1 n c1, .slice a2 m c2, .int .i64 s, .int .i64 p] w fun en w' => en = .returned (.bool true) ∧ Below w.heap.size w w' := by
  have H : Hid (Calls Try.prog 27 #[.slice a1 n c1, .slice a2 m c2, .int .i64 s, .int .i64 p] w fun en w' => ∃ b : Bool, en = .returned (.bool b) ∧ w' = w) := zz27 a1 a2 n c1 m c2 s p w hn hm
  unfold maxLen at hn hm
  rcases (show 1024 < n ∨ (n ≤ 1024 ∧ 1024 < m) ∨ (n ≤ 1024 ∧ m ≤ 1024 ∧ m < n) ∨ (n ≤ 1024 ∧ m ≤ 1024 ∧ n ≤ m ∧ s < 0) ∨ (n ≤ 1024 ∧ m ≤ 1024 ∧ n ≤ m ∧ 0 ≤ s ∧ (n : Int) < s) from by omega) with h1 | ⟨h1, h2⟩ | ⟨h1, h2, h3⟩ | ⟨h1, h2, h3, h4⟩ | ⟨h1, h2, h3, h4, h5⟩
  all_goals
    clear h
    go_enter Try.func9, Try.ntmps9
    go_wp2_with (go_at_call 27; refine H.out.mono ?_; rintro en w' ⟨b, rfl, rfl⟩)
    all_goals
      go_ret
      exact ⟨rfl, Below.refl _ _⟩

theorem near_zero {Z : Nat → Int} {B : Nat → Bool} {lo : Nat} {pt r : Int} (h : Near Z B 0 lo pt r) : r = -1 := by
  rcases near_idx h with e | ⟨i, _, _, h2, _⟩
  · exact e
  · omega

set_option maxHeartbeats 1000000 in
set_option maxRecDepth 100000 in
theorem visit_core (a1 a2 : Option Addr) (n c1 m c2 lo : Nat) (p : Int) (Z : Nat → Int) (B : Nat → Bool) (w : World) (hn : n ≤ 1024) (hm : m ≤ 1024) (hnm : n ≤ m) (hlo : lo ≤ n) (hn0 : 0 < n)
    (hI : InI w a1 n c1 Z) (hB : InB w a2 m c2 B) :
    Calls Try.prog 9 #[.slice a1 n c1, .slice a2 m c2, .int .i64 lo, .int .i64 p] w fun en w' => en = .returned (.bool true) ∧ Below w.heap.size w w' := by
  go_enter Try.func9, Try.ntmps9
  go_wp2_with (first | (go_at_call 22; refine (sorted_any a1 n c1 Z _ (by omega) hI).mono ?_) | (go_at_call 27; go_in))
  rintro en w1 ⟨⟨f, rfl, hs⟩, q, rfl⟩
  cases f
  · clear hs
    go_wp2
    go_ret
    exact ⟨rfl, below_draws w q⟩
  · have HS : Hid (∀ i, i + 1 < n → Z i ≤ Z (i + 1)) := hs rfl
    clear hs
    have hI1 := hI.below (below_draws w q)
    have hB1 := hB.below (below_draws w q)
    clear hI hB
    go_wp2_with (go_at_call 23; refine (cloneI_any a1 n c1 Z _ (by omega) hI1).mono ?_)
    rintro en w2 ⟨a1', c1', rfl, hh1, hb2⟩
    obtain ⟨rfl, e1, h1⟩ := hh1 hn0
    clear hh1
    have e1' := e1.symm
    subst e1'
    have hB2 := hB1.below hb2
    have H1 : Hid (∃ xs, w2.ownsRow (w.drewN q).heap.size 3 1 (.slice (some ⟨(w.drewN q).heap.size, 0, none⟩) n n) n xs ∧ ∀ j, j < n → xs[j]? = some (.int .i64 (Z j))) := h1
    clear h1 hI1 hB1
    go_wp2_with (go_at_call 24; refine (cloneB_any a2 m c2 B _ (by omega) hB2).mono ?_)
    rintro en w3 ⟨a2', c2', rfl, hh2, hb3⟩
    obtain ⟨rfl, e2, h2⟩ := hh2 (by omega)
    clear hh2
    have e2' := e2.symm
    subst e2'
    have hT : Tw w3 w.heap.size w2.heap.size n m Z B := tw_of (by omega) hnm H1.out h2 hb3
    have hBel : Below w.heap.size w w3 := ((below_draws w q).trans (hb2.mono (Nat.le_refl _))).trans (hb3.mono (by have := hb2.size; simpa using this))
    have hg2 : w.heap.size < w2.heap.size := hT.ne
    clear H1 h2 hB2 hb2 hb3
    have hU0 := U_le B lo n
    go_wp2
    go_loop [9, 10] (fun wv i => ∃ k : Nat, lo ≤ k ∧ k ≤ n ∧ i = .int .i64 (k : Int) ∧ wv = .int .i64 (U B lo k : Nat)) (fun _ i => n - (intOf i).toNat)
    case atStart => exact ⟨lo, Nat.le_refl _, hlo, rfl, by rw [U_low B lo lo (Nat.le_refl _)]; rfl⟩
    case round =>
      obtain ⟨k, hk1, hk2, rfl, rfl⟩ := hrel
      have hUk := U_le B lo k
      by_cases hc : k < n
      · have hcB := hT.cell k (by omega)
        cases hb : B k
        · rw [hb] at hcB
          have HU : Hid (U B lo (k + 1) = U B lo k + 1) := by
            show U B lo (k + 1) = U B lo k + 1
            simp only [U]; rw [if_pos ⟨hk1, hb⟩]
          clear hb
          go_wp2
          go_round
          case rel => exact ⟨k + 1, by omega, by omega, by go_num, by rw [HU.out]; go_num⟩
          case measure => simp [intOf]; omega
        · rw [hb] at hcB
          have HU : Hid (U B lo (k + 1) = U B lo k) := by
            show U B lo (k + 1) = U B lo k
            simp only [U]; rw [if_neg (by simp [hb])]; rfl
          clear hb
          go_wp2
          go_round
          case rel => exact ⟨k + 1, by omega, by omega, by go_num, by rw [HU.out]⟩
          case measure => simp [intOf]; omega
      · have hkn : n = k := by omega
        subst hkn
        obtain ⟨W, hW⟩ : ∃ W, W = U B lo n := ⟨_, rfl⟩
        rw [← hW]
        rw [← hW] at hUk hU0
        have HW : Hid (U B lo n + 0 = W) := by show U B lo n + 0 = W; omega
        clear hW hUk hc hk1 hk2
        go_wp2
        go_loopw [11, 12, 13, 14, 15] (fun cnt prev ap dn st wr => ∃ (t : Nat) (pI : Int) (apB : Bool) (B' : Nat → Bool), t ≤ n ∧ cnt = .int .i64 (t : Int) ∧ prev = .int .i64 pI ∧ ap = .bool apB ∧ dn = .bool false ∧ st = .int .i64 (t : Int) ∧
            Hid (U B' lo n + t = W) ∧ Ord Z B' n lo p pI apB ∧ Tw wr w.heap.size w2.heap.size n m Z B' ∧ Below w.heap.size w wr) (fun _ _ _ _ st _ => n + 1 - (intOf st).toNat)
        case atStart => exact ⟨0, -1, false, B, Nat.zero_le _, rfl, rfl, rfl, rfl, rfl, HW, ord_start Z B n lo p, hT, hBel⟩
        case round =>
          clear hT hBel HW
          obtain ⟨t, pI, apB, B', ht, rfl, rfl, rfl, rfl, rfl, HU, ho, hT, hBel⟩ := hrel
          go_wp2_with (go_at_call 25; refine (shimN_any _ _ n n m m lo Z B' p _ hT.rows hlo HS.out).mono ?_)
          rintro en w4 ⟨⟨r, rfl, hr⟩, q', hw4⟩
          have hT4 : Tw w4 w.heap.size w2.heap.size n m Z B' := by rw [hw4]; exact hT.draws q'
          have hBel4 : Below w.heap.size w w4 := by rw [hw4]; exact below_drewN hBel q'
          clear hw4 hT hBel
          rcases near_idx hr with hr1 | ⟨i, hri, hi1, hi2, hi3⟩
          · subst hr1
            have hu := near_stop hr
            have HE : Hid (t = W) := by
              have := HU.out
              show t = W
              omega
            clear hr hu ho
            go_wp2
            go_ret
            exact ⟨ret_t (by rw [HE.out]; simp), hBel4⟩
          · subst hri
            have hcB := hT4.cell i (by omega)
            rw [hi3] at hcB
            have hcZ := hT4.ends i hi2
            have hfz := hT4.frz i
            have hT5 : Hid (Tw (w4.setCell ⟨w2.heap.size, i, none⟩ (.bool true)) w.heap.size w2.heap.size n m Z (mark B' i)) := hT4.put i (by omega)
            have hBel5 : Hid (Below w.heap.size w (w4.setCell ⟨w2.heap.size, i, none⟩ (.bool true))) := hBel4.setCell (by show w.heap.size ≤ w2.heap.size; omega) _
            have hum := U_mark B' lo i hi1 hi3 n hi2
            have HU' : Hid (U (mark B' i) lo n + (t + 1) = W) := by
              have := HU.out
              show U (mark B' i) lo n + (t + 1) = W
              omega
            have htn : t + 1 ≤ n := by
              have := HU'.out
              omega
            clear hum hi3 hT4 hBel4
            by_cases hz : Z i < p
            · obtain ⟨rfl, hp, ho'⟩ := near_low hr ho hz
              have HO : Hid (Ord Z (mark B' i) n lo p i false) := ho'
              clear hr ho ho'
              rcases hp with rfl | hp
              · go_wp2
                go_roundw
                case rel => exact ⟨t + 1, i, false, mark B' i, htn, by go_num, rfl, rfl, rfl, by go_num, HU', HO.out, hT5.out, hBel5.out⟩
                case measure => simp [intOf]; omega
              · go_wp2
                go_roundw
                case rel => exact ⟨t + 1, i, false, mark B' i, htn, by go_num, rfl, rfl, rfl, by go_num, HU', HO.out, hT5.out, hBel5.out⟩
                case measure => simp [intOf]; omega
            · obtain ⟨hp, ho'⟩ := near_high hr ho (by omega)
              have HO : Hid (Ord Z (mark B' i) n lo p i true) := ho'
              clear hr ho ho'
              cases apB
              · clear hp
                go_wp2
                go_roundw
                case rel => exact ⟨t + 1, i, true, mark B' i, htn, by go_num, rfl, rfl, rfl, by go_num, HU', HO.out, hT5.out, hBel5.out⟩
                case measure => simp [intOf]; omega
              · have hp' : pI < (i : Int) := hp rfl
                clear hp
                go_wp2
                go_roundw
                case rel => exact ⟨t + 1, i, true, mark B' i, htn, by go_num, rfl, rfl, rfl, by go_num, HU', HO.out, hT5.out, hBel5.out⟩
                case measure => simp [intOf]; omega
end Go.Proofs.Qxb6600319a
