/-
  The walk of quotedString and of its shim: the Go text computes 'rd'.
-/
import Derived.Test.Qxb6600307aShelf
import Derived.Test.Qxb6600307aPlain
import Derived.WalkKit
import Derived.WalkSpells
import Derived.BigCall
namespace Go.Proofs.Qxb6600307a
open Go.RowKit

/-- What holds at the head of each round: what has been gathered and what is still to be read make up the answer. -/
def J (s : ByteArray) (V : List UInt8) (E : Nat) (acc : List UInt8) (k : Nat) : Prop :=
  acc ++ (rd (s.data.toList.drop k)).1 = V ∧ k + (rd (s.data.toList.drop k)).2 = E

theorem drop_at (s : ByteArray) (k : Nat) (h : k < s.size) : s.data.toList.drop k = s[k] :: s.data.toList.drop (k + 1) := by
  rw [List.drop_eq_getElem_cons (by simpa using h)]; rfl

theorem u8_eq {c : UInt8} {n : Nat} (h : (c.toNat : Int) = n) (hn : n < 256) : c = n.toUInt8 := by
  apply UInt8.toNat_inj.1
  simp
  omega

theorem J_end {s V E acc k} (h : J s V E acc k) (hk : s.size ≤ k) : V = acc ∧ E = k := by
  obtain ⟨h1, h2⟩ := h
  rw [List.drop_eq_nil_of_le (by simpa using hk)] at h1 h2
  simp [rd] at h1 h2
  exact ⟨h1.symm, h2.symm⟩

theorem J_quote {s V E acc k} (h : J s V E acc k) (hk : k < s.size) (hc : (s[k].toNat : Int) = 34) : V = acc ∧ E = k + 1 := by
  obtain ⟨h1, h2⟩ := h
  rw [drop_at s k hk, u8_eq (n := 34) hc (by omega)] at h1 h2
  have e : rd ((34 : Nat).toUInt8 :: List.drop (k + 1) s.data.toList) = ([], 1) := rd_quote _
  rw [e] at h1 h2
  simp at h1 h2
  exact ⟨h1.symm, h2.symm⟩

theorem J_last {s V E acc k} (h : J s V E acc k) (hk : k < s.size) (hc : (s[k].toNat : Int) = 92) (hl : k + 1 = s.size) : V = acc ++ [92] ∧ E = s.size := by
  obtain ⟨h1, h2⟩ := h
  rw [drop_at s k hk, u8_eq (n := 92) hc (by omega), List.drop_eq_nil_of_le (by simp only [Array.length_toList]; show s.size ≤ k + 1; omega)] at h1 h2
  have e : rd [(92 : Nat).toUInt8] = ([92], 1) := rd_last
  rw [e] at h1 h2
  simp at h1 h2
  exact ⟨h1.symm, by omega⟩

theorem J_esc {s V E acc k} (h : J s V E acc k) (hk : k < s.size) (hc : (s[k].toNat : Int) = 92) (hl : k + 1 < s.size) : J s V E (acc ++ [s[k + 1]]) (k + 2) := by
  obtain ⟨h1, h2⟩ := h
  rw [drop_at s k hk, u8_eq (n := 92) hc (by omega), drop_at s (k + 1) hl] at h1 h2
  have e : rd ((92 : Nat).toUInt8 :: s[k + 1] :: List.drop (k + 1 + 1) s.data.toList) = _ := rd_esc _ _
  rw [e] at h1 h2
  refine ⟨by rw [← h1]; simp, by rw [← h2]; show k + 2 + (rd (List.drop (k + 1 + 1) s.data.toList)).2 = _; simp; omega⟩

theorem J_plain {s V E acc k} (h : J s V E acc k) (hk : k < s.size) (h1 : ¬ (s[k].toNat : Int) = 34) (h2 : ¬ (s[k].toNat : Int) = 92) : J s V E (acc ++ [s[k]]) (k + 1) := by
  obtain ⟨g1, g2⟩ := h
  rw [drop_at s k hk, rd_plain _ _ (by intro e; rw [e] at h1; exact h1 rfl) (by intro e; rw [e] at h2; exact h2 rfl)] at g1 g2
  refine ⟨by rw [← g1]; simp, by rw [← g2]; simp; omega⟩

theorem J_start (s : ByteArray) (k : Nat) : J s (rd (s.data.toList.drop k)).1 (k + (rd (s.data.toList.drop k)).2) [] k := ⟨rfl, rfl⟩

set_option maxHeartbeats 1000000 in
theorem quoted_core (s : ByteArray) (st : Nat) (V : List UInt8) (E : Nat) (w : World) (hs : s.size ≤ 10000000) (hst : st < s.size) (hJ : J s V E [] (st + 1)) :
    Calls Try.prog 11 #[.string s, .int .i64 st] w fun e w' => e = .returned (.tuple #[.string ⟨V.toArray⟩, .int .i64 E]) ∧ Below w.heap.size w w' := by
  go_enter Try.func11, Try.ntmps11
  go_wp2
  go_loopw [7] (fun i wr => ∃ (k : Nat) (acc : List UInt8), k ≤ s.size ∧ i = .int .i64 k ∧ acc.length ≤ k ∧ J s V E acc k ∧ Lib.IsBuilder 31 5 w.heap.size w.heap.size (Lib.byteCells acc) wr ∧ Below w.heap.size w wr)
    (fun i wr => s.size - (intOf i).toNat)
  case atStart =>
    exact ⟨st + 1, [], by omega, by go_num, by simp, hJ, Lib.fresh_isBuilder 31 5 w, (Below.refl _ w).alloc (Nat.le_refl _) _⟩
  case round =>
    obtain ⟨k, acc, hk, rfl, hal, hj, hI, hbw⟩ := hrel
    have hszw := hbw.size
    by_cases hlt : k < s.size
    · by_cases h34 : (s[k].toNat : Int) = 34
      · -- the closing quote
        have e1 : (((s[k].toNat : Int)) == 34) = true := by simpa using h34
        obtain ⟨hV, hE⟩ := J_quote hj hlt h34
        have HV : Hid (V = acc) := hV
        have HE : Hid (E = k + 1) := hE
        clear h34 hV hE hj
        go_wp2_with (go_at_call 12; refine (Try.Builder_String_any w.heap.size w.heap.size acc _ hI (by omega)).mono ?_)
        rintro e W1 ⟨rfl, b1⟩
        go_wp2
        go_ret2
        refine ⟨?_, hbw.trans b1⟩
        rw [HV.out, HE.out]; rfl
      · have e1 : (((s[k].toNat : Int)) == 34) = false := by simpa using h34
        by_cases h92 : (s[k].toNat : Int) = 92
        · have e2 : (((s[k].toNat : Int)) == 92) = true := by simpa using h92
          by_cases hl : k + 1 = s.size
          · obtain ⟨hV, hE⟩ := J_last hj hlt h92 hl
            have HV : Hid (V = acc ++ [92]) := hV
            have HE : Hid (E = s.size) := hE
            have e3 : ((k : Int) + 1 == (s.size : Int)) = true := by simp; omega
            clear h34 h92 hV hE hj hl
            go_wp2_with (go_at_call 13; refine (Try.Builder_WriteByte w.heap.size w.heap.size _ 92 _ hI (by rw [Lib.byteCells_length]; omega) (by omega)).mono ?_)
            rintro e W1 ⟨rfl, h1, b1⟩
            have h1' : Lib.IsBuilder 31 5 w.heap.size w.heap.size (Lib.byteCells (acc ++ [92])) W1 := by rw [Lib.byteCells_append]; exact Or.inr h1
            have hs1 := b1.size
            go_wp2_with (go_at_call 12; refine (Try.Builder_String_any w.heap.size w.heap.size (acc ++ [92]) _ h1' (by omega)).mono ?_)
            rintro e W2 ⟨rfl, b2⟩
            go_wp2
            go_ret2
            refine ⟨?_, (hbw.trans b1).trans b2⟩
            rw [HV.out, HE.out]; rfl
          · have hl' : k + 1 < s.size := by omega
            have hj' := J_esc hj hlt h92 hl'
            have e3 : ((k : Int) + 1 == (s.size : Int)) = false := by simp; omega
            clear h34 h92 hl hj
            go_wp2_with (go_at_call 13; refine (Try.Builder_WriteByte w.heap.size w.heap.size _ (s[k + 1].toNat) _ hI (by rw [Lib.byteCells_length]; omega) (by omega)).mono ?_)
            rintro e W1 ⟨rfl, h1, b1⟩
            go_wp2
            go_roundw
            case rel =>
              refine ⟨k + 2, acc ++ [s[k + 1]], by omega, by go_num, by simp; omega, hj', ?_, hbw.trans b1⟩
              rw [Lib.byteCells_append]; exact Or.inr h1
            case measure => simp [intOf]; omega
        · have e2 : (((s[k].toNat : Int)) == 92) = false := by simpa using h92
          have hj' := J_plain hj hlt h34 h92
          clear h34 h92 hj
          go_wp2_with (go_at_call 13; refine (Try.Builder_WriteByte w.heap.size w.heap.size _ (s[k].toNat) _ hI (by rw [Lib.byteCells_length]; omega) (by omega)).mono ?_)
          rintro e W1 ⟨rfl, h1, b1⟩
          go_wp2
          go_roundw
          case rel =>
            refine ⟨k + 1, acc ++ [s[k]], by omega, by go_num, by simp; omega, hj', ?_, hbw.trans b1⟩
            rw [Lib.byteCells_append]; exact Or.inr h1
          case measure => simp [intOf]; omega
    · obtain ⟨hV, hE⟩ := J_end hj (by omega)
      have HV : Hid (V = acc) := hV
      have HE : Hid (E = s.size) := by show E = s.size; omega
      clear hV hE hj
      go_wp2_with (go_at_call 12; refine (Try.Builder_String_any w.heap.size w.heap.size acc _ hI (by omega)).mono ?_)
      rintro e W1 ⟨rfl, b1⟩
      go_wp2
      go_ret2
      refine ⟨?_, hbw.trans b1⟩
      rw [HV.out, HE.out]; rfl

/-- quotedString at any text and any start inside it. -/
theorem quoted_any (s : ByteArray) (st : Nat) (w : World) (hs : s.size ≤ 10000000) (hst : st < s.size) :
    Calls Try.prog 11 #[.string s, .int .i64 st] w fun e w' => e = .returned (.tuple #[.string ⟨(rd (s.data.toList.drop (st + 1))).1.toArray⟩, .int .i64 ((st + 1 + (rd (s.data.toList.drop (st + 1))).2 : Nat) : Int)]) ∧ Below w.heap.size w w' :=
  quoted_core s st _ _ w hs hst (J_start s (st + 1))

set_option maxHeartbeats 400000 in
theorem shim_core (s : ByteArray) (st : Nat) (V : List UInt8) (E : Nat) (w : World)
    (h : Calls Try.prog 11 #[.string s, .int .i64 st] w fun e w' => e = .returned (.tuple #[.string ⟨V.toArray⟩, .int .i64 E]) ∧ Below w.heap.size w w') :
    Calls Try.prog 8 #[.string s, .int .i64 st] w fun e w' => e = .returned (.tuple #[.string ⟨V.toArray⟩, .int .i64 E]) ∧ Below w.heap.size w w' := by
  have H : Hid (Calls Try.prog 11 #[.string s, .int .i64 st] w fun e w' => e = .returned (.tuple #[.string ⟨V.toArray⟩, .int .i64 E]) ∧ Below w.heap.size w w') := h
  clear h
  go_enter Try.func8, Try.ntmps8
  go_wp2_with (go_at_call 11; refine H.out.mono ?_)
  rintro e W1 ⟨rfl, b1⟩
  go_wp2
  go_ret2
  exact ⟨rfl, b1⟩

theorem shim_any (s : ByteArray) (st : Nat) (w : World) (hs : s.size ≤ 10000000) (hst : st < s.size) :
    Calls Try.prog 8 #[.string s, .int .i64 st] w fun e w' => e = .returned (.tuple #[.string ⟨(rd (s.data.toList.drop (st + 1))).1.toArray⟩, .int .i64 ((st + 1 + (rd (s.data.toList.drop (st + 1))).2 : Nat) : Int)]) ∧ Below w.heap.size w w' :=
  shim_core s st _ _ w (quoted_any s st w hs hst)
#print axioms shim_any
end Go.Proofs.Qxb6600307a
