/-
  The walk of serialOrder.
-/
import Derived.Test.Qxb6000533aCopy
namespace Go.Proofs.Qxb6000533a
open Go.RowKit

/-- The cells of the slice that was handed in. -/
def pre (l : Nat) (Z : Nat → Int) : List Value := (List.range l).map (fun j => Value.int .i64 (Z j))
theorem pre_len (l : Nat) (Z : Nat → Int) : (pre l Z).length = l := by simp [pre]

theorem grow_own (a1 : Option Addr) (l m : Nat) (Z : Nat → Int) (w : World) (hl : l ≤ 100000) (hm0 : 0 < m) (hm : m ≤ 300000) (hnil : a1 = none → l = 0)
    (h1 : 0 < l → ∃ g1, a1 = some ⟨g1, 0, none⟩ ∧ ∀ j, j < l → w.cell? ⟨g1, j, none⟩ = some (.int .i64 (Z j))) :
    Calls Try.prog 32 #[.slice a1 l l, .int .i64 m] w fun e w' => ∃ v, e = .returned v ∧ w'.ownsRow w.heap.size 3 1 v l (pre l Z) ∧ Below w.heap.size w w' := by
  obtain ⟨i0, hi, hz0, hz1, hz2⟩ := info_parts info3
  have hge := grownCap_ge w (l + m) l 3
  have hmx := grownCap_le_maxLen w (l + m) l 3 (by unfold maxLen; omega)
  refine (Try.grow_grow i0 (.int .i64 0) hi hz0 (by omega) a1 l l m (pre l Z) w (Nat.le_refl _) (by omega) (by rw [hz2]; omega) (by omega) (by rw [pre_len, hz1]; omega) hnil ?_).mono ?_
  · intro a ha j v hj
    have hjl : j < l := by
      have := (List.getElem?_eq_some_iff.1 hj).1
      rw [pre_len] at this
      exact this
    obtain ⟨g1, e, hc⟩ := h1 (by omega)
    rw [ha] at e
    cases e
    have e2 : (⟨g1, 0, none⟩ : Addr).add j = ⟨g1, j, none⟩ := by unfold Addr.add; split <;> simp_all
    rw [e2, hc j hjl]
    simp [pre, hjl] at hj
    rw [hj]
  · rintro e w' ⟨rfl, rfl⟩
    refine ⟨_, rfl, ⟨by rw [pre_len]; omega, .inr ⟨w.heap.size, _, _, rfl, Nat.le_refl _, heap_alloc_new w.drew _, by omega, hmx, ?_, ?_⟩⟩, ((Below.refl _ w).drew).alloc (Nat.le_refl _) _⟩
    · have hc1 : (Value.int .i64 0).cells.size = 1 := rfl
      simp only [Array.size_append, List.size_toArray, size_zeroCells, pre_len, hc1]
      omega
    · simp only [Array.toList_append, List.append_assoc]
      have : l * 1 = (pre l Z).length := by rw [pre_len]; omega
      rw [this]
      exact List.take_left

/-- What holds between two rounds: what has been gathered lies in a row of the call's own. -/
def Rel (B l m : Nat) (P : List Value) (w : World) (f : Nat → Bool) (bnd : Nat) (v : Value) (wr : World) : Prop :=
  ∃ app : List Int, wr.ownsRow B 3 1 v (l + app.length) (P ++ app.map (Value.int .i64)) ∧ Lst m app f ∧ app.length ≤ bnd ∧ Below B w wr

theorem rel_drop {B l m : Nat} {P : List Value} {w : World} {f f' : Nat → Bool} {bnd : Nat} {v : Value} {wr : World} (h : Rel B l m P w f bnd v wr) (hf : ∀ app, Lst m app f → Lst m app f') : Rel B l m P w f' (bnd + 1) v wr := by
  obtain ⟨app, h1, h2, h3, h4⟩ := h
  exact ⟨app, h1, hf app h2, by omega, h4⟩

theorem rel_keep {B l m : Nat} {P : List Value} {w : World} {f' : Nat → Bool} {bnd : Nat} {v v' : Value} {wr w1 : World} {o : Obj} {app : List Int} {k : Nat}
    (hown : wr.ownsRow B 3 1 v (l + app.length) (P ++ app.map (Value.int .i64))) (hb : app.length ≤ bnd) (hbw : Below B w wr) (hBw : B ≤ wr.heap.size)
    (hL : Lst m (app ++ [(k : Int)]) f')
    (hown' : w1.ownsRow B 3 1 v' (l + app.length + 1) (P ++ (app.map (Value.int .i64) ++ [.int .i64 (k : Int)]))) (hgrow : (wr.alloc o).grownBy w1 v.ownBlock) : Rel B l m P w f' (bnd + 1) v' w1 := by
  refine ⟨app ++ [(k : Int)], ?_, hL, by simp; omega, ?_⟩
  · rw [List.length_append, List.map_append]
    exact hown'
  · exact (hbw.alloc hBw o).grown hgrow (by simp; omega) (fun k hk => (hown.lt k hk).1)

theorem rel_to {B l m : Nat} {P : List Value} {w : World} {f f' : Nat → Bool} {bnd bnd' : Nat} {v : Value} {wr : World} (h : Rel B l m P w f bnd v wr) (hf : ∀ app, Lst m app f → Lst m app f') (hb : bnd ≤ bnd') : Rel B l m P w f' bnd' v wr := by
  obtain ⟨app, h1, h2, h3, h4⟩ := h
  exact ⟨app, h1, hf app h2, by omega, h4⟩

theorem rel_le {B l m : Nat} {P : List Value} {w : World} {f : Nat → Bool} {bnd bnd' : Nat} {v : Value} {wr : World} (h : Rel B l m P w f bnd v wr) (hb : bnd ≤ bnd') : Rel B l m P w f bnd' v wr :=
  rel_to h (fun _ h => h) hb

theorem one_cell (x : Int) : ∀ u ∈ ([Value.int .i64 x] : List Value), u.oneCell' = true := by
  intro u hu; simp at hu; subst hu; rfl

theorem new_cell (w : World) (x : Int) : ∀ (j : Nat) (u : Value), ([Value.int .i64 x] : List Value)[j]? = some u → (w.alloc (.cells #[.int .i64 x] 3)).cell? ((⟨w.heap.size, 0, none⟩ : Addr).add j) = some u := by
  intro j u hj
  match j, hj with
  | 0, hj => simp at hj; subst hj; simp [Addr.add]

set_option maxHeartbeats 2000000 in
set_option maxRecDepth 100000 in
theorem serial_core (a1 : Option Addr) (l g m c : Nat) (Z S : Nat → Int) (w : World) (hl : l ≤ 100000) (hm0 : 0 < m) (hm : m ≤ 300000) (hg : g < w.heap.size)
    (hS : ∀ j, j < m → w.cell? ⟨g, j, none⟩ = some (.int .u8 (S j)))
    (H : Hid (Calls Try.prog 32 #[.slice a1 l l, .int .i64 m] w fun e w' => ∃ v, e = .returned v ∧ w'.ownsRow w.heap.size 3 1 v l (pre l Z) ∧ Below w.heap.size w w')) :
    Calls Try.prog 29 #[.slice a1 l l, .slice (some ⟨g, 0, none⟩) m c] w fun e w' => ∃ v, e = .returned v ∧ Rel w.heap.size l m (pre l Z) w (fun j => fin (S j)) (4 * m) v w' := by
  obtain ⟨i0, hi, hz0, hz1, hz2⟩ := info_parts info3
  have HS : Hid (∀ j, j < m → w.cell? ⟨g, j, none⟩ = some (.int .u8 (S j))) := hS
  clear hS
  go_enter Try.func29, Try.ntmps29
  go_wp2_with (go_at_call 32; refine H.out.mono ?_)
  rintro e w1 ⟨v0, rfl, hown0, hb0⟩
  clear H
  have hR0 : Rel w.heap.size l m (pre l Z) w (f1 S 0) (0 + 0) v0 w1 := ⟨[], by simpa using hown0, l1_start S m, by simp, hb0⟩
  clear hown0 hb0
  go_wp2
  go_loopw [0, 18] (fun v i wr => ∃ k : Nat, k ≤ m ∧ i = .int .i64 (k : Int) ∧ Rel w.heap.size l m (pre l Z) w (f1 S k) (0 + k) v wr) (fun _ i _ => m - (intOf i).toNat)
  case atStart => exact ⟨0, Nat.zero_le _, rfl, hR0⟩
  case round =>
    obtain ⟨k, hk, rfl, hR⟩ := hrel
    clear hR0
    by_cases hc : k < m
    · obtain ⟨app, hown, hL, hle, hbw⟩ := hR
      have hBw := hbw.size
      have hcell : wr.cell? ⟨g, k, none⟩ = some (.int .u8 (S k)) := (hbw.cell (p := ⟨g, k, none⟩) hg).trans (HS.out k hc)
      by_cases h2 : S k = 2
      · have e2 : (S k == 2) = true := by simpa using h2
        have hL' := l1_hit hL hc h2
        clear h2 hL
        go_wp2_with (at_builtin; refine wpList_append_own _ rfl (.tmp 25) (.tmp 27) 22 rfl w.heap.size 3 i0 (.int .i64 0) 1 8 Try.underlying22 hi hz0 hz1 hz2 rfl (by decide) _ _ _ rfl (hown.alloc _) ⟨wr.heap.size, 0, none⟩ 1 1 [.int .i64 k] rfl rfl (new_cell wr k) (one_cell k) ?c3 ?c4 ?c5 ?_)
        case c3 => unfold maxLen; omega
        case c4 => omega
        case c5 => simp; omega
        intro v' w2 hown' hgrow _
        have hR' := rel_keep hown hle hbw hBw hL' hown' hgrow
        clear hown' hgrow hown hbw hL' 
        go_wp2
        go_roundw
        case rel => exact ⟨k + 1, by omega, by go_num, hR'⟩
        case measure => simp [intOf]; omega
      · have e2 : (S k == 2) = false := by simpa using h2
        have hR' := rel_drop (l := l) (P := pre l Z) (w := w) ⟨app, hown, hL, hle, hbw⟩ (fun app h => l1_miss h h2)
        clear h2 hL hown hbw
        go_wp2
        go_roundw
        case rel => exact ⟨k + 1, by omega, by go_num, hR'⟩
        case measure => simp [intOf]; omega
    · have hkm : m = k := by omega
      subst hkm
      have hR2 : Rel w.heap.size l m (pre l Z) w (f2 S m) (m + (m - m)) u0 wr := rel_to hR (fun app h => l2_start h) (by omega)
      clear hR
      go_wp2
      go_loopw [0, 7] (fun v i wr => ∃ t : Nat, t ≤ m ∧ i = .int .i64 ((t : Int) - 1) ∧ Rel w.heap.size l m (pre l Z) w (f2 S t) (m + (m - t)) v wr) (fun _ i _ => (intOf i + 1).toNat)
      case atStart => exact ⟨m, Nat.le_refl _, rfl, hR2⟩
      case round =>
        obtain ⟨t, hk, rfl, hR⟩ := hrel
        clear hR2
        by_cases hc : 0 < t
        · obtain ⟨k, rfl⟩ : ∃ k, t = k + 1 := ⟨t - 1, by omega⟩
          rw [show (((k + 1 : Nat) : Int) - 1) = (k : Int) from by omega]
          obtain ⟨app, hown, hL, hle, hbw⟩ := hR
          have hBw := hbw.size
          have hcell : wr.cell? ⟨g, k, none⟩ = some (.int .u8 (S k)) := (hbw.cell (p := ⟨g, k, none⟩) hg).trans (HS.out k (by omega))
          by_cases h2 : S k = 3
          · have e2 : (S k == 3) = true := by simpa using h2
            have hL' := l2_hit hL (by omega) h2
            clear h2 hL
            go_wp2_with (at_builtin; refine wpList_append_own _ rfl (.tmp 42) (.tmp 44) 22 rfl w.heap.size 3 i0 (.int .i64 0) 1 8 Try.underlying22 hi hz0 hz1 hz2 rfl (by decide) _ _ _ rfl (hown.alloc _) ⟨wr.heap.size, 0, none⟩ 1 1 [.int .i64 k] rfl rfl (new_cell wr k) (one_cell k) ?c3 ?c4 ?c5 ?_)
            case c3 => unfold maxLen; omega
            case c4 => omega
            case c5 => simp; omega
            intro v' w2 hown' hgrow _
            have hR' := rel_keep hown hle hbw hBw hL' hown' hgrow
            clear hown' hgrow hown hbw hL' 
            go_wp2
            go_roundw
            case rel => exact ⟨k, by omega, by go_num, rel_le hR' (by omega)⟩
            case measure => simp [intOf]
          · have e2 : (S k == 3) = false := by simpa using h2
            have hR' := rel_drop (l := l) (P := pre l Z) (w := w) ⟨app, hown, hL, hle, hbw⟩ (fun app h => l2_miss h h2)
            clear h2 hL hown hbw
            go_wp2
            go_roundw
            case rel => exact ⟨k, by omega, by go_num, rel_le hR' (by omega)⟩
            case measure => simp [intOf]
        · obtain rfl : t = 0 := by omega
          rw [show (((0 : Nat) : Int) - 1) = (-1 : Int) from rfl]
          have hR3 : Rel w.heap.size l m (pre l Z) w (f3 S 0) (2 * m + 0) u0 wr := rel_to hR (fun app h => l3_start h) (by omega)
          clear hR
          go_wp2
          go_loopw [0, 48] (fun v i wr => ∃ k : Nat, k ≤ m ∧ i = .int .i64 (k : Int) ∧ Rel w.heap.size l m (pre l Z) w (f3 S k) (2 * m + k) v wr) (fun _ i _ => m - (intOf i).toNat)
          case atStart => exact ⟨0, Nat.zero_le _, rfl, hR3⟩
          case round =>
            obtain ⟨k, hk, rfl, hR⟩ := hrel
            clear hR3
            by_cases hc : k < m
            · obtain ⟨app, hown, hL, hle, hbw⟩ := hR
              have hBw := hbw.size
              have hcell : wr.cell? ⟨g, k, none⟩ = some (.int .u8 (S k)) := (hbw.cell (p := ⟨g, k, none⟩) hg).trans (HS.out k hc)
              by_cases h2 : S k = 0
              · have e2 : (S k == 0) = true := by simpa using h2
                have hL' := l3_hit hL hc h2
                clear h2 hL
                go_wp2_with (at_builtin; refine wpList_append_own _ rfl (.tmp 55) (.tmp 57) 22 rfl w.heap.size 3 i0 (.int .i64 0) 1 8 Try.underlying22 hi hz0 hz1 hz2 rfl (by decide) _ _ _ rfl (hown.alloc _) ⟨wr.heap.size, 0, none⟩ 1 1 [.int .i64 k] rfl rfl (new_cell wr k) (one_cell k) ?c3 ?c4 ?c5 ?_)
                case c3 => unfold maxLen; omega
                case c4 => omega
                case c5 => simp; omega
                intro v' w2 hown' hgrow _
                have hR' := rel_keep hown hle hbw hBw hL' hown' hgrow
                clear hown' hgrow hown hbw hL' 
                go_wp2
                go_roundw
                case rel => exact ⟨k + 1, by omega, by go_num, hR'⟩
                case measure => simp [intOf]; omega
              · have e2 : (S k == 0) = false := by simpa using h2
                have hR' := rel_drop (l := l) (P := pre l Z) (w := w) ⟨app, hown, hL, hle, hbw⟩ (fun app h => l3_miss h h2)
                clear h2 hL hown hbw
                go_wp2
                go_roundw
                case rel => exact ⟨k + 1, by omega, by go_num, hR'⟩
                case measure => simp [intOf]; omega
            · have hkm : m = k := by omega
              subst hkm
              have hR4 : Rel w.heap.size l m (pre l Z) w (f4 S 0) (3 * m + 0) u0 wr := rel_to hR (fun app h => l4_start h) (by omega)
              clear hR
              go_wp2
              go_loopw [0, 62] (fun v i wr => ∃ k : Nat, k ≤ m ∧ i = .int .i64 (k : Int) ∧ Rel w.heap.size l m (pre l Z) w (f4 S k) (3 * m + k) v wr) (fun _ i _ => m - (intOf i).toNat)
              case atStart => exact ⟨0, Nat.zero_le _, rfl, hR4⟩
              case round =>
                obtain ⟨k, hk, rfl, hR⟩ := hrel
                clear hR4
                by_cases hc : k < m
                · obtain ⟨app, hown, hL, hle, hbw⟩ := hR
                  have hBw := hbw.size
                  have hcell : wr.cell? ⟨g, k, none⟩ = some (.int .u8 (S k)) := (hbw.cell (p := ⟨g, k, none⟩) hg).trans (HS.out k hc)
                  by_cases h2 : S k = 4
                  · have e2 : (S k == 4) = true := by simpa using h2
                    have hL' := l4_hit hL hc h2
                    clear h2 hL
                    go_wp2_with (at_builtin; refine wpList_append_own _ rfl (.tmp 69) (.tmp 71) 22 rfl w.heap.size 3 i0 (.int .i64 0) 1 8 Try.underlying22 hi hz0 hz1 hz2 rfl (by decide) _ _ _ rfl (hown.alloc _) ⟨wr.heap.size, 0, none⟩ 1 1 [.int .i64 k] rfl rfl (new_cell wr k) (one_cell k) ?c3 ?c4 ?c5 ?_)
                    case c3 => unfold maxLen; omega
                    case c4 => omega
                    case c5 => simp; omega
                    intro v' w2 hown' hgrow _
                    have hR' := rel_keep hown hle hbw hBw hL' hown' hgrow
                    clear hown' hgrow hown hbw hL' 
                    go_wp2
                    go_roundw
                    case rel => exact ⟨k + 1, by omega, by go_num, hR'⟩
                    case measure => simp [intOf]; omega
                  · have e2 : (S k == 4) = false := by simpa using h2
                    have hR' := rel_drop (l := l) (P := pre l Z) (w := w) ⟨app, hown, hL, hle, hbw⟩ (fun app h => l4_miss h h2)
                    clear h2 hL hown hbw
                    go_wp2
                    go_roundw
                    case rel => exact ⟨k + 1, by omega, by go_num, hR'⟩
                    case measure => simp [intOf]; omega
                · have hkm : m = k := by omega
                  subst hkm
                  have hRe : Rel w.heap.size l m (pre l Z) w (fun j => fin (S j)) (4 * m) u0 wr := rel_to hR (fun app h => l4_end h) (by omega)
                  clear hR
                  go_wp2
                  go_ret
                  exact ⟨_, rfl, hRe⟩
end Go.Proofs.Qxb6000533a
