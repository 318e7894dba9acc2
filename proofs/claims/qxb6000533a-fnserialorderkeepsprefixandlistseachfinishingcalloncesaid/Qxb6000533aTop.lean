/-
  The walk of FnSerialOrderKeepsPrefixAndListsEachFinishingCallOnce.
-/
import Derived.Test.Qxb6000533aZser
namespace Go.Proofs.Qxb6000533a
open Go.RowKit

theorem InI.below {w w' : World} {a : Option Addr} {n c : Nat} {Z : Nat → Int} (h : InI w a n c Z) (hb : Below w.heap.size w w') : InI w' a n c Z := by
  rcases h with h | ⟨h1, h2⟩
  · exact Or.inl h
  · refine Or.inr ⟨h1, fun hn => ?_⟩
    obtain ⟨b, o, e, hlt, hc⟩ := h2 hn
    exact ⟨b, o, e, Nat.lt_of_lt_of_le hlt hb.size, fun j hj => (hb.cell (p := ⟨b, o + j, none⟩) hlt).trans (hc j hj)⟩
theorem InB.below {w w' : World} {a : Option Addr} {n c : Nat} {Z : Nat → Int} (h : InB w a n c Z) (hb : Below w.heap.size w w') : InB w' a n c Z := by
  rcases h with h | ⟨h1, h2⟩
  · exact Or.inl h
  · refine Or.inr ⟨h1, fun hn => ?_⟩
    obtain ⟨b, o, e, hlt, hc⟩ := h2 hn
    exact ⟨b, o, e, Nat.lt_of_lt_of_le hlt hb.size, fun j hj => (hb.cell (p := ⟨b, o + j, none⟩) hlt).trans (hc j hj)⟩

/-- A slice whose cells are known wherever there is an element. -/
def Row (w : World) (a : Option Addr) (n : Nat) (V : Nat → Value) : Prop :=
  0 < n → ∃ g, a = some ⟨g, 0, none⟩ ∧ g < w.heap.size ∧ ∀ j, j < n → w.cell? ⟨g, j, none⟩ = some (V j)

theorem Row.below {w w' : World} {a : Option Addr} {n : Nat} {V : Nat → Value} (h : Row w a n V) (hb : Below w.heap.size w w') : Row w' a n V := by
  intro hn
  obtain ⟨g, e, hlt, hc⟩ := h hn
  exact ⟨g, e, Nat.lt_of_lt_of_le hlt hb.size, fun j hj => (hb.cell (p := ⟨g, j, none⟩) hlt).trans (hc j hj)⟩

theorem row_copy {w w' : World} {a : Option Addr} {n c E : Nat} {V : Nat → Value}
    (h : 0 < n → a = some ⟨w.heap.size, 0, none⟩ ∧ c = n ∧ ∃ xs, w'.ownsRow w.heap.size E 1 (.slice (some ⟨w.heap.size, 0, none⟩) n n) n xs ∧ ∀ j, j < n → xs[j]? = some (V j)) : Row w' a n V := by
  intro hn
  obtain ⟨e, _, xs, ho, hx⟩ := h hn
  exact ⟨_, e, (ho.lt w.heap.size rfl).2, fun j hj => by rw [ho.cellAt j (by omega), hx j hj]⟩

theorem in_of_row {w : World} {a : Option Addr} {n : Nat} {Z : Nat → Int} (h : Row w a n (fun j => .int .i64 (Z j))) (hnil : a = none → n = 0) : InI w a n n Z := by
  by_cases ha : a = none
  · have h0 := hnil ha
    subst h0
    exact Or.inl ⟨ha, rfl, rfl⟩
  · refine Or.inr ⟨Option.ne_none_iff_exists'.1 ha, fun hn => ?_⟩
    obtain ⟨g, e, hlt, hc⟩ := h hn
    exact ⟨g, 0, e, hlt, fun j hj => by rw [Nat.zero_add]; exact hc j hj⟩

/-- A row that is owned, as a slice. -/
theorem own_row {w : World} {B : Nat} {v : Value} {n : Nat} {xs : List Value} (h : w.ownsRow B 3 1 v n xs) :
    ∃ a c, v = .slice a n c ∧ Row w a n (fun j => xs.getD j undef) := by
  have hl : xs.length = n := by have := h.1; omega
  rcases h.2 with ⟨e, e0⟩ | ⟨g, cap, cur, e, hB, hg, _, _, hcs, ht⟩
  · subst e0
    exact ⟨none, 0, e, fun hn => absurd hn (by omega)⟩
  · subst e
    refine ⟨_, cap, rfl, fun hn => ⟨g, rfl, (h.lt g rfl).2, fun j hj => ?_⟩⟩
    rw [h.cellAt j (by omega), List.getElem?_eq_getElem (by omega)]
    simp [List.getD, show j < xs.length from by omega]

theorem pre_getD (l : Nat) (Z : Nat → Int) (app : List Int) (j : Nat) (hj : j < l) : (pre l Z ++ app.map (Value.int .i64)).getD j undef = .int .i64 (Z j) := by
  have : j < (pre l Z).length := by rw [pre_len]; exact hj
  simp only [List.getD, List.getElem?_append_left this]
  simp [pre, hj]

theorem app_getD (l : Nat) (Z : Nat → Int) (app : List Int) (t : Nat) (ht : t < app.length) : (pre l Z ++ app.map (Value.int .i64)).getD (l + t) undef = .int .i64 (app[t]) := by
  have : (pre l Z).length ≤ l + t := by rw [pre_len]; omega
  simp only [List.getD, List.getElem?_append_right this, pre_len]
  simp [show l + t - l = t from by omega, ht]

theorem count_step (app : List Int) (t : Nat) (ht : t < app.length) (j : Int) : (app.take (t + 1)).count j = (app.take t).count j + if app[t] = j then 1 else 0 := by
  rw [List.take_succ_eq_append_getElem ht, List.count_append]
  congr 1
  by_cases h : app[t] = j
  · rw [if_pos h, h]; simp
  · rw [if_neg h, List.count_eq_zero]
    simp
    exact fun e => h e.symm

theorem count_le (app : List Int) (t : Nat) (j : Int) : (app.take t).count j ≤ app.length :=
  Nat.le_trans List.count_le_length (by rw [List.length_take]; omega)

theorem zz9 (a1 a2 : Option Addr) (l c1 m c2 : Nat) (w : World) (hn : l ≤ maxLen) (hm : m ≤ maxLen) :
    Calls Try.prog 9 #[.slice a1 l c1, .slice a2 m c2] w fun en w' => ∃ b : Bool, en = .returned (.bool b) ∧ w' = w := by
  unfold maxLen at hn hm
  go_enter Try.func9, Try.ntmps9
  go_wp2
  all_goals
    go_ret
    exact ⟨_, rfl, rfl⟩

set_option maxHeartbeats 1000000 in
theorem top_easy (a1 a2 : Option Addr) (l c1 m c2 : Nat) (w : World) (hn : l ≤ maxLen) (hm : m ≤ maxLen) (h : 65536 < l ∨ 262144 < m ∨ 1048576 < 8 * l + m) :
    Calls Try.prog 3 #[.slice a1 l c1, .slice a2 m c2] w fun en w' => en = .returned (.bool true) ∧ Below w.heap.size w w' := by
  have H : Hid (Calls Try.prog 9 #[.slice a1 l c1, .slice a2 m c2] w fun en w' => ∃ b : Bool, en = .returned (.bool b) ∧ w' = w) := zz9 a1 a2 l c1 m c2 w hn hm
  unfold maxLen at hn hm
  rcases (show 65536 < l ∨ (l ≤ 65536 ∧ 262144 < m) ∨ (l ≤ 65536 ∧ m ≤ 262144 ∧ 1048576 < 8 * l + m) from by omega) with h1 | ⟨h1, h2⟩ | ⟨h1, h2, h3⟩
  all_goals
    clear h
    go_enter Try.func3, Try.ntmps3
    go_wp2_with (go_at_call 9; refine H.out.mono ?_; rintro en w' ⟨b, rfl, rfl⟩)
    all_goals
      go_ret
      exact ⟨rfl, Below.refl _ _⟩

set_option maxHeartbeats 2000000 in
set_option maxRecDepth 100000 in
theorem top_core (a1 a2 : Option Addr) (l c1 m c2 : Nat) (Z S : Nat → Int) (w : World) (hl : l ≤ 65536) (hm0 : 0 < m) (hm : m ≤ 262144) (hlm : 8 * l + m ≤ 1048576) (hI : InI w a1 l c1 Z) (hB : InB w a2 m c2 S) :
    Calls Try.prog 3 #[.slice a1 l c1, .slice a2 m c2] w fun en w' => en = .returned (.bool true) ∧ Below w.heap.size w w' := by
  obtain ⟨i0, hi, hz0, hz1, hz2⟩ := info_parts info3
  go_enter Try.func3, Try.ntmps3
  go_wp2_with (first | (go_at_call 10; refine (copyI_any a1 l c1 Z _ (by omega) hI).mono ?_) | (go_at_call 9; go_in))
  rintro en w1 ⟨x1, d1, rfl, e1, n1, r1, hb1⟩
  have e1' := e1.symm
  subst e1'
  have hR1 := row_copy r1
  have hB1 := hB.below hb1
  clear r1 e1 hI hB
  go_wp2_with (go_at_call 11; refine (copyB_any a2 m c2 S _ (by omega) hB1).mono ?_)
  rintro en w2 ⟨x2, d2, rfl, e2, n2, r2, hb2⟩
  have e2' := e2.symm
  subst e2'
  have hR2 := row_copy r2
  have hR1' := hR1.below hb2
  have hI2 := in_of_row hR1' n1
  obtain ⟨g2, rfl, hg2, hS⟩ := hR2 hm0
  have hR2k : Row w2 (some ⟨g2, 0, none⟩) m (fun j => .int .u8 (S j)) := fun _ => ⟨g2, rfl, hg2, hS⟩
  have HB2 : Hid (Below w.heap.size w w2) := hb1.trans (hb2.mono hb1.size)
  have hsz2 : w.heap.size ≤ w2.heap.size := HB2.out.size
  clear r2 e2 n2 hB1 hb1 hb2 hR1 hR2 hS
  go_wp2_with (go_at_call 10; refine (copyI_any x1 l l Z _ (by omega) hI2).mono ?_)
  rintro en w3 ⟨x3, d3, rfl, e3, n3, r3, hb3⟩
  have e3' := e3.symm
  subst e3'
  have hR3 := row_copy r3
  have hR1'' := hR1'.below hb3
  have hR2'' := hR2k.below hb3
  obtain ⟨g2', eg, hg2', hS3⟩ := hR2'' hm0
  cases eg
  have HB3 : Hid (Below w.heap.size w w3) := HB2.out.trans (hb3.mono hsz2)
  have hsz3 : w.heap.size ≤ w3.heap.size := HB3.out.size
  clear r3 e3 n3 hI2 hR1' hR2k hb3 HB2 hg2 hsz2
  have HZ : Hid (Calls Try.prog 12 #[.slice x1 l l, .slice (some ⟨g2, 0, none⟩) m m] w3 fun e w' => ∃ v, e = .returned v ∧ Out w3.heap.size l m Z S w3 v w') :=
    zser_core x1 l g2 m m Z S w3 (by omega) hm0 (by omega) hg2' n1 hR1'' hS3
  have HR2 : Hid (Row w3 (some ⟨g2, 0, none⟩) m (fun j => .int .u8 (S j))) := fun _ => ⟨g2, rfl, hg2', hS3⟩
  clear n1 hR1'' hR2'' hS3 hg2'
  have HR3 : Hid (Row w3 x3 l (fun j => .int .i64 (Z j))) := hR3
  clear hR3
  go_wp2_with (go_at_call 12; refine HZ.out.mono ?_)
  rintro en w4 ⟨v, rfl, app, B', ho, hL, hle, hb4⟩
  obtain ⟨xo, co, rfl, hRo⟩ := own_row ho
  have HR2' : Hid (Row w4 (some ⟨g2, 0, none⟩) m (fun j => .int .u8 (S j))) := HR2.out.below hb4
  have HR3' : Hid (Row w4 x3 l (fun j => .int .i64 (Z j))) := HR3.out.below hb4
  have HRo : Hid (Row w4 xo (l + app.length) (fun j => (pre l Z ++ app.map (Value.int .i64)).getD j undef)) := hRo
  have HL : Hid (Lst m app (fun j => fin (S j))) := hL
  have HB4 : Hid (Below w.heap.size w w4) := HB3.out.trans (hb4.mono hsz3)
  clear ho hRo hL hb4 HR2 HR3 HB3 HZ
  go_wp2
  go_loopw [7] (fun i wr => ∃ k q : Nat, k ≤ l ∧ i = .int .i64 (k : Int) ∧ wr = w4.drewN q) (fun i _ => l - (intOf i).toNat)
  case atStart => exact ⟨0, 0, Nat.zero_le _, rfl, rfl⟩
  case round =>
    obtain ⟨k, q, hk, rfl, rfl⟩ := hrel
    by_cases hc : k < l
    · obtain ⟨g3, rfl, hlt3, hc3⟩ := HR3'.out (by omega)
      obtain ⟨go, rfl, hlto, hco⟩ := HRo.out (by omega)
      have hcell3 : w4.cell? ⟨g3, k, none⟩ = some (.int .i64 (Z k)) := hc3 k hc
      have hcello : w4.cell? ⟨go, k, none⟩ = some (.int .i64 (Z k)) := (hco k (by omega)).trans (congrArg some (pre_getD l Z app k hc))
      have hne : (Z k != Z k) = false := by simp
      clear hc3 hco hlt3 hlto
      go_wp2
      go_quiet (fail)
      go_wp2
      go_roundw
      case rel => exact ⟨k + 1, q + nq, by omega, by go_num, by first | rfl | rw [World.drewN_drewN]⟩
      case measure => simp [intOf]; omega
    · have hkl : l = k := by omega
      subst hkl
      go_wp2_with (at_make; refine wpList_make_full _ rfl _ _ 22 rfl w4.heap.size 3 i0 (.int .i64 0) 1 Try.underlying22 hi hz0 hz1 .i64 .i64 _ _ m rfl rfl ?c1 ?c2 ?c3 ?c4 ?c5 ?_)
      case c1 => rfl
      case c2 => rfl
      case c3 => rw [hz2]; omega
      case c4 => unfold maxLen; omega
      case c5 => exact Nat.le_refl _
      intro w5 hown5 hgrow5
      have hb5 : Below w4.heap.size w4 w5 := (below_drewN (Below.refl _ w4) q).grown hgrow5 (Nat.le_refl _) (fun k hk => by simp at hk)
      clear hgrow5
      clear hc
      go_wp2
      go_loopw [9] (fun i wr => ∃ (t : Nat) (xs : List Value), t ≤ app.length ∧ i = .int .i64 ((l : Int) + (t : Int)) ∧ wr.ownsRow w4.heap.size 3 1 (.slice (some ⟨w4.heap.size, 0, none⟩) m m) m xs ∧
          Hid (∀ j : Nat, j < m → xs[j]? = some (.int .i64 ((app.take t).count (j : Int) : Nat))) ∧ Below w4.heap.size w4 wr) (fun i _ => l + app.length - (intOf i).toNat)
      case atStart =>
        refine ⟨0, _, Nat.zero_le _, by go_num, hown5, ?_, hb5⟩
        intro j hj
        rw [toList_madeCells_one]
        simp [hj]
      case round =>
        clear hown5 hb5
        obtain ⟨t, xs, ht, rfl, hown, hs, hbw⟩ := hrel
        have hsw := hbw.size
        by_cases hc : t < app.length
        · obtain ⟨go, rfl, hlto, hco⟩ := HRo.out (by omega)
          obtain ⟨i, him, hei⟩ := HL.out.1 app[t] (List.getElem_mem hc)
          have hcello : wr.cell? ⟨go, l + t, none⟩ = some (.int .i64 (i : Int)) := by
            rw [hbw.cell (p := ⟨go, l + t, none⟩) hlto, ← hei]
            exact (hco (l + t) (by omega)).trans (congrArg some (app_getD l Z app t hc))
          have hxl : xs.length = m := by have := hown.1; omega
          obtain ⟨C, hC⟩ : ∃ C, C = (app.take t).count (i : Int) := ⟨_, rfl⟩
          have hCb : C ≤ 4 * m := by rw [hC]; exact Nat.le_trans (count_le app t i) hle
          have hcc : wr.cell? ⟨w4.heap.size, i, none⟩ = some (.int .i64 (C : Int)) := by
            rw [hown.cellAt i (by omega), hs.out i him, hC]
          have hfz := hown.frozenAt i
          obtain ⟨hown2, hgrow2⟩ := hown.stored i (.int .i64 ((C : Int) + 1))
          have hb2 : Hid (Below w4.heap.size w4 (wr.setCell ⟨w4.heap.size, i, none⟩ (.int .i64 ((C : Int) + 1)))) := hbw.setCell (Nat.le_refl _) _
          have HX : Hid (∀ j : Nat, j < m → (xs.set i (.int .i64 ((C : Int) + 1)))[j]? = some (.int .i64 ((app.take (t + 1)).count (j : Int) : Nat))) := fun j hj => by
            rw [List.getElem?_set, count_step app t hc]
            by_cases e : i = j
            · subst e
              rw [if_pos rfl, if_pos (by omega), if_pos hei, ← hC]
              rfl
            · rw [if_neg e, if_neg (by rw [hei]; omega), hs.out j hj]
              rfl
          have hown3 : Hid ((wr.setCell ⟨w4.heap.size, i, none⟩ (.int .i64 ((C : Int) + 1))).ownsRow w4.heap.size 3 1 (.slice (some ⟨w4.heap.size, 0, none⟩) m m) m (xs.set i (.int .i64 ((C : Int) + 1)))) := hown2
          have htn : ((l : Int) + (t : Int)).toNat = l + t := by omega
          clear hown2 hgrow2 hown hbw hs hco hlto hei hC
          go_wp2
          go_roundw
          case rel => exact ⟨t + 1, _, by omega, by go_num, hown3.out, HX, hb2.out⟩
          case measure => simp [intOf]; omega
        · have htl : app.length = t := by omega
          have HX : Hid (∀ j : Nat, j < m → xs[j]? = some (.int .i64 (app.count (j : Int) : Nat))) := fun j hj => by
            rw [hs.out j hj, List.take_of_length_le (by omega)]
          have HW : Hid (Below w.heap.size w wr) := HB4.out.trans (hbw.mono HB4.out.size)
          have HT : Hid (app.length = t) := htl
          clear hs htl
          have hge : app.length ≤ t := by rw [HT.out]; exact Nat.le_refl _
          go_wp2
          go_loop [11] (fun i => ∃ k : Nat, k ≤ m ∧ i = .int .i64 (k : Int)) (fun i => m - (intOf i).toNat)
          case atStart => exact ⟨0, Nat.zero_le _, rfl⟩
          case round =>
            obtain ⟨k, hk, rfl⟩ := hrel
            by_cases hc' : k < m
            · obtain ⟨g2', eg, hlt2, hc2⟩ := HR2'.out hm0
              cases eg
              have hcellS : wr.cell? ⟨g2, k, none⟩ = some (.int .u8 (S k)) := (hbw.cell (p := ⟨g2, k, none⟩) hlt2).trans (hc2 k hc')
              have hcl : app.count (k : Int) = if fin (S k) then 1 else 0 := HL.out.2 k hc'
              have hcellC : wr.cell? ⟨w4.heap.size, k, none⟩ = some (.int .i64 ((app.count (k : Int) : Nat) : Int)) := by
                rw [hown.cellAt k (by omega), HX.out k hc']
              rw [hcl] at hcellC
              clear hlt2 hc2 hcl
              cases hf : fin (S k)
              · rw [hf] at hcellC
                have hcC : wr.cell? ⟨w4.heap.size, k, none⟩ = some (.int .i64 0) := hcellC
                have H13 : Hid (Calls Try.prog 13 #[.int .u8 (S k)] wr fun e w' => e = .returned (.bool false) ∧ w' = wr) := by
                  have := fin_any (S k) wr
                  rw [hf] at this
                  exact this
                clear hf hcellC
                go_wp2_with (go_at_call 13; refine H13.out.mono ?_; rintro e w6 ⟨rfl, rfl⟩)
                go_round
                case rel => exact ⟨k + 1, by omega, by go_num⟩
                case measure => simp [intOf]; omega
              · rw [hf] at hcellC
                have hcC : wr.cell? ⟨w4.heap.size, k, none⟩ = some (.int .i64 1) := hcellC
                have H13 : Hid (Calls Try.prog 13 #[.int .u8 (S k)] wr fun e w' => e = .returned (.bool true) ∧ w' = wr) := by
                  have := fin_any (S k) wr
                  rw [hf] at this
                  exact this
                clear hf hcellC
                go_wp2_with (go_at_call 13; refine H13.out.mono ?_; rintro e w6 ⟨rfl, rfl⟩)
                go_round
                case rel => exact ⟨k + 1, by omega, by go_num⟩
                case measure => simp [intOf]; omega
            · go_wp2
              go_ret
              exact ⟨rfl, HW.out⟩
end Go.Proofs.Qxb6000533a
