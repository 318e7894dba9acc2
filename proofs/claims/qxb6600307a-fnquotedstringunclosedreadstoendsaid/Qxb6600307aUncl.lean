/-
  The walk of FnQuotedStringUnclosedReadsToEnd.
-/
import Derived.Test.Qxb6600307aInv
namespace Go.Proofs.Qxb6600307a
open Go.RowKit

theorem zz9 (p v e : ByteArray) (d : Bool) (w : World) (hp : p.size ≤ maxLen) (hv : v.size ≤ maxLen) (he : e.size ≤ maxLen) :
    Calls Try.prog 9 #[.string p, .string v, .string e, .bool d] w fun en w' => ∃ b : Bool, en = .returned (.bool b) ∧ w' = w := by
  unfold maxLen at hp hv he
  go_enter Try.func9, Try.ntmps9
  go_wp2
  all_goals
    go_ret
    exact ⟨_, rfl, rfl⟩

set_option maxHeartbeats 400000 in
theorem uncl_easy (p v e : ByteArray) (d : Bool) (w : World) (hp : p.size ≤ maxLen) (hv : v.size ≤ maxLen) (he : e.size ≤ maxLen)
    (h : 262144 < p.size ∨ 262144 < v.size ∨ 262144 < e.size) :
    Calls Try.prog 4 #[.string p, .string v, .string e, .bool d] w fun en w' => en = .returned (.bool true) ∧ Below w.heap.size w w' := by
  have H : Hid (Calls Try.prog 9 #[.string p, .string v, .string e, .bool d] w fun en w' => ∃ b : Bool, en = .returned (.bool b) ∧ w' = w) := zz9 p v e d w hp hv he
  unfold maxLen at hp hv he
  by_cases h1 : 262144 < p.size
  · clear h
    go_enter Try.func4, Try.ntmps4
    go_wp2_with (go_at_call 9; refine H.out.mono ?_)
    rintro en w' ⟨b, rfl, rfl⟩
    cases b <;> (go_wp2; go_ret; exact ⟨rfl, Below.refl _ _⟩)
  · by_cases h2 : 262144 < v.size
    · clear h
      go_enter Try.func4, Try.ntmps4
      go_wp2_with (go_at_call 9; refine H.out.mono ?_)
      rintro en w' ⟨b, rfl, rfl⟩
      cases b <;> (go_wp2; go_ret; exact ⟨rfl, Below.refl _ _⟩)
    · have h4 : 262144 < e.size := by omega
      clear h
      go_enter Try.func4, Try.ntmps4
      go_wp2_with (go_at_call 9; refine H.out.mono ?_)
      rintro en w' ⟨b, rfl, rfl⟩
      cases b <;> (go_wp2; go_ret; exact ⟨rfl, Below.refl _ _⟩)

set_option maxHeartbeats 1000000 in
theorem uncl_core_no (p v esc : ByteArray) (R : List UInt8) (w : World) (hp : p.size ≤ 262144) (hv : v.size ≤ 262144) (he : esc.size ≤ 262144) (hR : R.length ≤ 524288)
    (H7 : Hid (Calls Try.prog 7 #[.string v, .string esc] w fun e w' => e = .returned (.slice (some ⟨w.heap.size, 0, none⟩) R.length (2 * v.size)) ∧
      w'.ownsRow w.heap.size 5 1 (.slice (some ⟨w.heap.size, 0, none⟩) R.length (2 * v.size)) R.length (Lib.byteCells R) ∧ Below w.heap.size w w'))
    (H8 : Hid (∀ w1 : World, Calls Try.prog 8 #[.string (p ++ ⟨#[34]⟩ ++ ⟨R.toArray⟩), .int .i64 p.size] w1 fun e w' => e = .returned (.tuple #[.string v, .int .i64 ((p.size + R.length + 1 : Nat) : Int)]) ∧ Below w1.heap.size w1 w')) :
    Calls Try.prog 4 #[.string p, .string v, .string esc, .bool false] w fun en w' => en = .returned (.bool true) ∧ Below w.heap.size w w' := by
  go_enter Try.func4, Try.ntmps4
  go_wp2_with (first | (go_at_call 7; refine H7.out.mono ?_) | (go_at_call 9; go_in))
  rintro en w1 ⟨rfl, hown, hb1⟩
  have hcv := conv_back R _ _ w1 hown
  go_wp2_with (go_at_call 8; refine (H8.out w1).mono ?_)
  rintro en w2 ⟨rfl, hb2⟩
  go_wp2
  go_ret
  exact ⟨ret_true (by simp; omega), hb1.trans (hb2.mono hb1.size)⟩

set_option maxHeartbeats 1000000 in
theorem uncl_core_yes (p v esc : ByteArray) (R : List UInt8) (w : World) (hp : p.size ≤ 262144) (hv : v.size ≤ 262144) (he : esc.size ≤ 262144) (hR : R.length ≤ 524288)
    (H7 : Hid (Calls Try.prog 7 #[.string v, .string esc] w fun e w' => e = .returned (.slice (some ⟨w.heap.size, 0, none⟩) R.length (2 * v.size)) ∧
      w'.ownsRow w.heap.size 5 1 (.slice (some ⟨w.heap.size, 0, none⟩) R.length (2 * v.size)) R.length (Lib.byteCells R) ∧ Below w.heap.size w w'))
    (H8 : Hid (∀ w1 : World, Calls Try.prog 8 #[.string (p ++ ⟨#[34]⟩ ++ ⟨R.toArray⟩ ++ ⟨#[92]⟩), .int .i64 p.size] w1 fun e w' => e = .returned (.tuple #[.string (v ++ ⟨#[92]⟩), .int .i64 ((p.size + R.length + 2 : Nat) : Int)]) ∧ Below w1.heap.size w1 w')) :
    Calls Try.prog 4 #[.string p, .string v, .string esc, .bool true] w fun en w' => en = .returned (.bool true) ∧ Below w.heap.size w w' := by
  go_enter Try.func4, Try.ntmps4
  go_wp2_with (first | (go_at_call 7; refine H7.out.mono ?_) | (go_at_call 9; go_in))
  rintro en w1 ⟨rfl, hown, hb1⟩
  have hcv := conv_back R _ _ w1 hown
  go_wp2_with (go_at_call 8; refine (H8.out w1).mono ?_)
  rintro en w2 ⟨rfl, hb2⟩
  go_wp2
  go_ret
  exact ⟨ret_true (by simp; omega), hb1.trans (hb2.mono hb1.size)⟩

theorem uncl_read_no (p v : ByteArray) (R : List UInt8) (esc : List UInt8) (hR : R = qt v.data.toList esc) (hp : p.size ≤ 262144) (hv : v.size ≤ 262144) (w : World) :
    Calls Try.prog 8 #[.string (p ++ ⟨#[34]⟩ ++ ⟨R.toArray⟩), .int .i64 p.size] w fun e w' => e = .returned (.tuple #[.string v, .int .i64 ((p.size + R.length + 1 : Nat) : Int)]) ∧ Below w.heap.size w w' := by
  have hl := qt_le v.data.toList esc
  have hvl : v.data.toList.length = v.size := rfl
  rw [← hR, hvl] at hl
  have hsz : (p ++ ⟨#[34]⟩ ++ ⟨R.toArray⟩).size = p.size + 1 + R.length := by
    simp only [ByteArray.size_append]; rfl
  have hd : (p ++ ⟨#[34]⟩ ++ ⟨R.toArray⟩).data.toList.drop (p.size + 1) = R := by
    simp only [append_toList]
    refine Eq.trans ?_ (drop_one p.data.toList R 34)
    show List.drop (p.data.toList.length + 1) _ = _
    simp
  have h := shim_any (p ++ ⟨#[34]⟩ ++ ⟨R.toArray⟩) p.size w (by rw [hsz]; omega) (by rw [hsz]; omega)
  rw [hd] at h
  have hrd := rd_qt [] v.data.toList esc
  rw [← hR, List.append_nil] at hrd
  rw [hrd] at h
  have e1 : p.size + 1 + (R.length + 0) = p.size + R.length + 1 := by omega
  simp only [rd, List.append_nil, e1] at h
  exact h

theorem uncl_read_yes (p v : ByteArray) (R : List UInt8) (esc : List UInt8) (hR : R = qt v.data.toList esc) (hp : p.size ≤ 262144) (hv : v.size ≤ 262144) (w : World) :
    Calls Try.prog 8 #[.string (p ++ ⟨#[34]⟩ ++ ⟨R.toArray⟩ ++ ⟨#[92]⟩), .int .i64 p.size] w fun e w' => e = .returned (.tuple #[.string (v ++ ⟨#[92]⟩), .int .i64 ((p.size + R.length + 2 : Nat) : Int)]) ∧ Below w.heap.size w w' := by
  have hl := qt_le v.data.toList esc
  have hvl : v.data.toList.length = v.size := rfl
  rw [← hR, hvl] at hl
  have hsz : (p ++ ⟨#[34]⟩ ++ ⟨R.toArray⟩ ++ ⟨#[92]⟩).size = p.size + 1 + R.length + 1 := by
    simp only [ByteArray.size_append]; rfl
  have hd : (p ++ ⟨#[34]⟩ ++ ⟨R.toArray⟩ ++ ⟨#[92]⟩).data.toList.drop (p.size + 1) = R ++ [92] := by
    simp only [append_toList]
    have e := drop_one p.data.toList (R ++ [92]) 34
    rw [← e]
    show List.drop (p.data.toList.length + 1) _ = _
    simp
  have h := shim_any (p ++ ⟨#[34]⟩ ++ ⟨R.toArray⟩ ++ ⟨#[92]⟩) p.size w (by rw [hsz]; omega) (by rw [hsz]; omega)
  rw [hd] at h
  have hrd := rd_qt [92] v.data.toList esc
  rw [← hR, rd_last] at hrd
  rw [hrd] at h
  have e1 : p.size + 1 + (R.length + 1) = p.size + R.length + 2 := by omega
  have e2 : (⟨(v.data.toList ++ [92]).toArray⟩ : ByteArray) = v ++ ⟨#[92]⟩ := by
    apply ByteArray.ext
    apply Array.ext'
    simp
  simp only [e1, e2] at h
  exact h

theorem uncl_any (p v e : ByteArray) (d : Bool) (w : World) (hp : p.size ≤ maxLen) (hv : v.size ≤ maxLen) (he : e.size ≤ maxLen) :
    Calls Try.prog 4 #[.string p, .string v, .string e, .bool d] w fun en w' => en = .returned (.bool true) ∧ Below w.heap.size w w' := by
  by_cases h : 262144 < p.size ∨ 262144 < v.size ∨ 262144 < e.size
  · exact uncl_easy p v e d w hp hv he h
  · have h1 : p.size ≤ 262144 := by omega
    have h2 : v.size ≤ 262144 := by omega
    have h4 : e.size ≤ 262144 := by omega
    have hl := qt_le v.data.toList e.data.toList
    have hvl : v.data.toList.length = v.size := rfl
    cases d
    · exact uncl_core_no p v e (qt v.data.toList e.data.toList) w h1 h2 h4 (by omega) (quote_any v e w h2 h4) (fun w1 => uncl_read_no p v _ e.data.toList rfl h1 h2 w1)
    · exact uncl_core_yes p v e (qt v.data.toList e.data.toList) w h1 h2 h4 (by omega) (quote_any v e w h2 h4) (fun w1 => uncl_read_yes p v _ e.data.toList rfl h1 h2 w1)
#print axioms uncl_any
end Go.Proofs.Qxb6600307a
