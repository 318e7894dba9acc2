/-
  The walk of lawQuote: the Go text lays 'qt' in a row of its own.
-/
import Derived.Test.Qxb6600307aRead
import Derived.WalkKit
import Derived.WalkSpells
import Derived.WalkLawsBesides
import Derived.Laws.BitsLemmas
namespace Go.Proofs.Qxb6600307a
open Go.RowKit

theorem info5 : (Try.prog.info? 5).map (fun i => (i.zero, i.size, i.bytes)) = some (some (.int .u8 0), 1, 1) := by kernel_rfl

theorem and_one_u8 (x : Int) (h0 : 0 ≤ x) (h1 : x < 256) : bits .and .u8 x 1 = x % 2 := bits_mask .u8 8 (by decide) wraps_u8 1 (by decide) x h0 h1

theorem byte_ne (c : UInt8) (n : Nat) (hn : n < 256) (h : ¬ c = n.toUInt8) : ((c.toNat : Int) == (n : Int)) = false := by
  simp only [beq_eq_false_iff_ne, ne_eq]
  intro e
  exact h (u8_eq e hn)

/-- The ways on which a byte is escaped, in the walk's own form. -/
theorem esc_yes (v esc : ByteArray) (k : Nat) (hk : k < v.size) (h : escd v[k] esc.data.toList[k]? = true) :
    (((v[k].toNat : Int)) == 34) = true ∨ ((((v[k].toNat : Int)) == 34) = false ∧ (((v[k].toNat : Int)) == 92) = true) ∨
    ((((v[k].toNat : Int)) == 34) = false ∧ (((v[k].toNat : Int)) == 92) = false ∧ ∃ hl : k < esc.size, (bits .and .u8 (esc[k].toNat : Int) 1 == 1) = true) := by
  by_cases h1 : v[k] = 34
  · left; rw [h1]; rfl
  · have e1 := byte_ne v[k] 34 (by omega) h1
    by_cases h2 : v[k] = 92
    · right; left; refine ⟨e1, ?_⟩; rw [h2]; rfl
    · have e2 := byte_ne v[k] 92 (by omega) h2
      right; right
      refine ⟨e1, e2, ?_⟩
      unfold escd at h
      by_cases hl : k < esc.size
      · refine ⟨hl, ?_⟩
        have hg : esc.data.toList[k]? = some esc[k] := List.getElem?_eq_getElem (by simpa using hl)
        rw [hg] at h
        simp [h1, h2] at h
        rw [and_one_u8 _ (by omega) (by have := esc[k].toNat_lt; omega)]
        simp; omega
      · rw [List.getElem?_eq_none (by simp only [Array.length_toList]; show esc.size ≤ k; omega)] at h
        simp [h1, h2] at h

theorem esc_no (v esc : ByteArray) (k : Nat) (hk : k < v.size) (h : escd v[k] esc.data.toList[k]? = false) :
    (((v[k].toNat : Int)) == 34) = false ∧ (((v[k].toNat : Int)) == 92) = false ∧ (esc.size ≤ k ∨ ∃ hl : k < esc.size, (bits .and .u8 (esc[k].toNat : Int) 1 == 1) = false) := by
  have h1 : ¬ v[k] = 34 := by intro e; rw [e] at h; simp [escd] at h
  have h2 : ¬ v[k] = 92 := by intro e; rw [e] at h; simp [escd] at h
  refine ⟨byte_ne v[k] 34 (by omega) h1, byte_ne v[k] 92 (by omega) h2, ?_⟩
  by_cases hl : k < esc.size
  · right
    refine ⟨hl, ?_⟩
    unfold escd at h
    have hg : esc.data.toList[k]? = some esc[k] := List.getElem?_eq_getElem (by simpa using hl)
    rw [hg] at h
    simp [h1, h2] at h
    rw [and_one_u8 _ (by omega) (by have := esc[k].toNat_lt; omega)]
    simp; omega
  · left; omega

theorem one_cell (x : Int) : ∀ u ∈ ([Value.int .u8 x] : List Value), u.oneCell' = true := by
  intro u hu; simp at hu; subst hu; rfl

theorem new_cell (w : World) (x : Int) : ∀ (j : Nat) (u : Value), ([Value.int .u8 x] : List Value)[j]? = some u → (w.alloc (.cells #[.int .u8 x] 5)).cell? ((⟨w.heap.size, 0, none⟩ : Addr).add j) = some u := by
  intro j u hj
  match j, hj with
  | 0, hj => simp at hj; subst hj; simp [Addr.add]

set_option maxHeartbeats 1000000 in
theorem quote_any (v esc : ByteArray) (w : World) (hv : v.size ≤ 262144) (_he : esc.size ≤ 262144) :
    Calls Try.prog 7 #[.string v, .string esc] w fun e w' => e = .returned (.slice (some ⟨w.heap.size, 0, none⟩) (qt v.data.toList esc.data.toList).length (2 * v.size)) ∧
      w'.ownsRow w.heap.size 5 1 (.slice (some ⟨w.heap.size, 0, none⟩) (qt v.data.toList esc.data.toList).length (2 * v.size)) (qt v.data.toList esc.data.toList).length (Lib.byteCells (qt v.data.toList esc.data.toList)) ∧ Below w.heap.size w w' := by
  obtain ⟨i0, hi, hz0, hz1, hz2⟩ := info_parts info5
  go_enter Try.func7, Try.ntmps7
  go_wp2_with (at_make; refine wpList_make_own _ rfl _ _ 23 rfl w.heap.size 5 i0 (.int .u8 0) 1 Try.underlying23 hi hz0 hz1 .i64 .i64 _ (2 * v.size) rfl rfl ?c1 ?c2 ?c3 ?c4 ?_)
  case c1 => omega
  case c2 => rw [hz2]; omega
  case c3 => unfold maxLen; omega
  case c4 => exact Nat.le_refl _
  intro w1 hown1 hgrow1
  have hb1 : Below w.heap.size w w1 := (Below.refl _ w).grown hgrow1 (Nat.le_refl _) (fun k hk => by simp at hk)
  have hl1 : w.heap.size < w1.heap.size := (hown1.lt w.heap.size rfl).2
  clear hgrow1
  go_wp2
  go_loopw [5, 6] (fun b i wr => ∃ (k : Nat) (Q : List UInt8), k ≤ v.size ∧ i = .int .i64 k ∧ b = .slice (some ⟨w.heap.size, 0, none⟩) Q.length (2 * v.size) ∧ Q.length ≤ 2 * k ∧ Q = qt (v.data.toList.take k) esc.data.toList ∧
      wr.ownsRow w.heap.size 5 1 (.slice (some ⟨w.heap.size, 0, none⟩) Q.length (2 * v.size)) Q.length (Lib.byteCells Q) ∧ Below w.heap.size w wr)
    (fun _ i _ => v.size - (intOf i).toNat)
  case atStart =>
    exact ⟨0, [], Nat.zero_le _, rfl, rfl, by simp, by simp [qt], hown1, hb1⟩
  case round =>
    obtain ⟨k, Q, hk, rfl, rfl, hQ, hq, hown, hbw⟩ := hrel
    have HQ : Hid (Q = qt (v.data.toList.take k) esc.data.toList) := hq
    have hsz := hbw.size
    clear hq hown1 hb1 hl1
    by_cases hlt : k < v.size
    · have hqt := qt_take v.data.toList esc.data.toList k (by simpa using hlt)
      have hvk : v.data.toList[k] = v[k] := rfl
      rw [hvk] at hqt
      by_cases hE : escd v[k] esc.data.toList[k]? = true
      · have HQ' : Hid (qt (v.data.toList.take (k + 1)) esc.data.toList = Q ++ [92, v[k]]) := by
          rw [hE, if_pos rfl, ← HQ.out] at hqt; exact hqt
        clear hqt hvk
        have ways := esc_yes v esc k hlt hE
        clear hE
        rcases ways with e1 | ⟨e1, e2⟩ | ⟨e1, e2, hl, e3⟩
        all_goals
          go_wp2_with (first | (at_builtin; refine wpList_append_fits _ rfl (.tmp 40) (.tmp 41) 23 rfl w.heap.size 5 i0 1 Try.underlying23 hi hz1 w.heap.size Q.length (2 * v.size) _ rfl (hown.alloc _) ⟨wr.heap.size, 0, none⟩ 1 1 [.int .u8 92] rfl rfl (new_cell wr 92) (one_cell 92) (by omega) ?_) )
          intro w2 hown2 hgrow2
          have hb2 : Below w.heap.size w w2 := (hbw.alloc hsz _).grown hgrow2 (by simp; omega) (fun k hk => by simp at hk; omega)
          have hsz2 := hb2.size
          clear hgrow2 hbw hown
          go_wp2_with (first | (at_builtin; refine wpList_append_fits _ rfl (.tmp 43) (.tmp 45) 23 rfl w.heap.size 5 i0 1 Try.underlying23 hi hz1 w.heap.size (Q.length + 1) (2 * v.size) _ rfl (hown2.alloc _) ⟨w2.heap.size, 0, none⟩ 1 1 [.int .u8 v[k].toNat] rfl rfl (new_cell w2 v[k].toNat) (one_cell v[k].toNat) (by omega) ?_) )
          intro w3 hown3 hgrow3
          have hb3 : Below w.heap.size w w3 := (hb2.alloc hsz2 _).grown hgrow3 (by simp; omega) (fun k hk => by simp at hk; omega)
          clear hgrow3 hb2 hown2
          go_wp2
          go_roundw
          case rel =>
            refine ⟨k + 1, Q ++ [92, v[k]], by omega, by go_num, by simp, by simp; omega, HQ'.out.symm, ?_, hb3⟩
            simpa [Lib.byteCells] using hown3
          case measure => simp [intOf]; omega
      · have hE' : escd v[k] esc.data.toList[k]? = false := by simpa using hE
        have HQ' : Hid (qt (v.data.toList.take (k + 1)) esc.data.toList = Q ++ [v[k]]) := by
          rw [hE', ← HQ.out] at hqt; exact (by simpa using hqt : qt (v.data.toList.take (k + 1)) esc.data.toList = Q ++ [v[k]])
        clear hqt hvk hE
        obtain ⟨e1, e2, ways⟩ := esc_no v esc k hlt hE'
        clear hE'
        rcases ways with hl | ⟨hl, e3⟩
        all_goals
          go_wp2_with (first | (at_builtin; refine wpList_append_fits _ rfl (.tmp 43) (.tmp 45) 23 rfl w.heap.size 5 i0 1 Try.underlying23 hi hz1 w.heap.size Q.length (2 * v.size) _ rfl (hown.alloc _) ⟨wr.heap.size, 0, none⟩ 1 1 [.int .u8 v[k].toNat] rfl rfl (new_cell wr v[k].toNat) (one_cell v[k].toNat) (by omega) ?_) )
          intro w2 hown2 hgrow2
          have hb2 : Below w.heap.size w w2 := (hbw.alloc hsz _).grown hgrow2 (by simp; omega) (fun k hk => by simp at hk; omega)
          clear hgrow2 hbw hown
          go_wp2
          go_roundw
          case rel =>
            refine ⟨k + 1, Q ++ [v[k]], by omega, by go_num, by simp, by simp; omega, HQ'.out.symm, ?_, hb2⟩
            simpa [Lib.byteCells] using hown2
          case measure => simp [intOf]; omega
    · obtain rfl : k = v.size := by omega
      have HF : Hid (qt v.data.toList esc.data.toList = Q) := by
        show qt v.data.toList esc.data.toList = Q
        rw [HQ.out, List.take_of_length_le (by simp only [Array.length_toList]; exact Nat.le_refl _)]
      go_wp2
      go_ret
      rw [HF.out]
      exact ⟨rfl, hown, hbw⟩
end Go.Proofs.Qxb6600307a
