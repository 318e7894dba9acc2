/-
  The walk of FnQuotedStringInvertsQuoting.
-/
import Derived.Test.Qxb6600307aQuote
import Derived.Laws.IdiomStrings
import Derived.Deep.DeepFit
namespace Go.Proofs.Qxb6600307a
open Go.RowKit

theorem ret_true {b : Bool} (h : b = true) : Ending.returned (.bool b) = .returned (.bool true) := by rw [h]

theorem conv_back (R : List UInt8) (B c : Nat) (w : World) (h : w.ownsRow B 5 1 (.slice (some ⟨B, 0, none⟩) R.length c) R.length (Lib.byteCells R)) :
    (convert 23 9 (.slice (some ⟨B, 0, none⟩) R.length c)).run Try.prog w = .ok (.string ⟨R.toArray⟩) w := by
  refine run_convert_bytes_back w 23 9 5 ⟨B, 0, none⟩ c R Try.underlying23 Try.underlying5 Try.underlying9 ?_
  intro j hj
  have := h.cells (g := B) rfl j (.int .u8 (R[j].toNat : Int)) (by simp [Lib.byteCells, hj])
  exact this

/-- The bound on total length: whatever it answers, it answers 'true' where each text is short. -/
theorem zz6 (p v s e : ByteArray) (w : World) (hp : p.size ≤ maxLen) (hv : v.size ≤ maxLen) (hs : s.size ≤ maxLen) (he : e.size ≤ maxLen) :
    Calls Try.prog 6 #[.string p, .string v, .string s, .string e] w fun en w' => ∃ b : Bool, en = .returned (.bool b) ∧ w' = w := by
  unfold maxLen at hp hv hs he
  go_enter Try.func6, Try.ntmps6
  go_wp2
  all_goals
    go_ret
    exact ⟨_, rfl, rfl⟩

set_option maxHeartbeats 400000 in
theorem inv_easy (p v s e : ByteArray) (w : World) (hp : p.size ≤ maxLen) (hv : v.size ≤ maxLen) (hs : s.size ≤ maxLen) (he : e.size ≤ maxLen)
    (h : 262144 < p.size ∨ 262144 < v.size ∨ 262144 < s.size ∨ 262144 < e.size) :
    Calls Try.prog 3 #[.string p, .string v, .string s, .string e] w fun en w' => en = .returned (.bool true) ∧ Below w.heap.size w w' := by
  have H : Hid (Calls Try.prog 6 #[.string p, .string v, .string s, .string e] w fun en w' => ∃ b : Bool, en = .returned (.bool b) ∧ w' = w) := zz6 p v s e w hp hv hs he
  unfold maxLen at hp hv hs he
  by_cases h1 : 262144 < p.size
  · clear h
    go_enter Try.func3, Try.ntmps3
    go_wp2_with (go_at_call 6; refine H.out.mono ?_)
    rintro en w' ⟨b, rfl, rfl⟩
    cases b <;> (go_wp2; go_ret; exact ⟨rfl, Below.refl _ _⟩)
  · by_cases h2 : 262144 < v.size
    · clear h
      go_enter Try.func3, Try.ntmps3
      go_wp2_with (go_at_call 6; refine H.out.mono ?_)
      rintro en w' ⟨b, rfl, rfl⟩
      cases b <;> (go_wp2; go_ret; exact ⟨rfl, Below.refl _ _⟩)
    · by_cases h3 : 262144 < s.size
      · clear h
        go_enter Try.func3, Try.ntmps3
        go_wp2_with (go_at_call 6; refine H.out.mono ?_)
        rintro en w' ⟨b, rfl, rfl⟩
        cases b <;> (go_wp2; go_ret; exact ⟨rfl, Below.refl _ _⟩)
      · have h4 : 262144 < e.size := by omega
        clear h
        go_enter Try.func3, Try.ntmps3
        go_wp2_with (go_at_call 6; refine H.out.mono ?_)
        rintro en w' ⟨b, rfl, rfl⟩
        cases b <;> (go_wp2; go_ret; exact ⟨rfl, Below.refl _ _⟩)

set_option maxHeartbeats 1000000 in
theorem inv_core (p v s esc : ByteArray) (R : List UInt8) (w : World) (hp : p.size ≤ 262144) (hv : v.size ≤ 262144) (hs : s.size ≤ 262144) (he : esc.size ≤ 262144) (hR : R.length ≤ 524288)
    (H7 : Hid (Calls Try.prog 7 #[.string v, .string esc] w fun e w' => e = .returned (.slice (some ⟨w.heap.size, 0, none⟩) R.length (2 * v.size)) ∧
      w'.ownsRow w.heap.size 5 1 (.slice (some ⟨w.heap.size, 0, none⟩) R.length (2 * v.size)) R.length (Lib.byteCells R) ∧ Below w.heap.size w w'))
    (H8 : Hid (∀ w1 : World, Calls Try.prog 8 #[.string (p ++ ⟨#[34]⟩ ++ ⟨R.toArray⟩ ++ ⟨#[34]⟩ ++ s), .int .i64 p.size] w1 fun e w' => e = .returned (.tuple #[.string v, .int .i64 ((p.size + R.length + 2 : Nat) : Int)]) ∧ Below w1.heap.size w1 w')) :
    Calls Try.prog 3 #[.string p, .string v, .string s, .string esc] w fun en w' => en = .returned (.bool true) ∧ Below w.heap.size w w' := by
  go_enter Try.func3, Try.ntmps3
  go_wp2_with (first | (go_at_call 7; refine H7.out.mono ?_) | (go_at_call 6; go_in))
  rintro en w1 ⟨rfl, hown, hb1⟩
  have hcv := conv_back R _ _ w1 hown
  go_wp2_with (go_at_call 8; refine (H8.out w1).mono ?_)
  rintro en w2 ⟨rfl, hb2⟩
  go_wp2
  go_ret
  exact ⟨ret_true (by simp), hb1.trans (hb2.mono hb1.size)⟩

theorem drop_one (l t : List UInt8) (c : UInt8) : (l ++ c :: t).drop (l.length + 1) = t := by
  induction l with
  | nil => rfl
  | cons d l ih => simp

theorem append_toList (a b : ByteArray) : (a ++ b).data.toList = a.data.toList ++ b.data.toList := by
  simp

theorem inv_read (p v s : ByteArray) (R : List UInt8) (esc : List UInt8) (hR : R = qt v.data.toList esc) (hp : p.size ≤ 262144) (hv : v.size ≤ 262144) (hs : s.size ≤ 262144) (w : World) :
    Calls Try.prog 8 #[.string (p ++ ⟨#[34]⟩ ++ ⟨R.toArray⟩ ++ ⟨#[34]⟩ ++ s), .int .i64 p.size] w fun e w' => e = .returned (.tuple #[.string v, .int .i64 ((p.size + R.length + 2 : Nat) : Int)]) ∧ Below w.heap.size w w' := by
  have hl := qt_le v.data.toList esc
  have hvl : v.data.toList.length = v.size := rfl
  rw [← hR, hvl] at hl
  have hsz : (p ++ ⟨#[34]⟩ ++ ⟨R.toArray⟩ ++ ⟨#[34]⟩ ++ s).size = p.size + 1 + R.length + 1 + s.size := by
    simp only [ByteArray.size_append]; rfl
  have hd : (p ++ ⟨#[34]⟩ ++ ⟨R.toArray⟩ ++ ⟨#[34]⟩ ++ s).data.toList.drop (p.size + 1) = R ++ (34 :: s.data.toList) := by
    simp only [append_toList]
    have e := drop_one p.data.toList (R ++ (34 :: s.data.toList)) 34
    rw [← e]
    show List.drop (p.data.toList.length + 1) _ = _
    simp
  have h := shim_any (p ++ ⟨#[34]⟩ ++ ⟨R.toArray⟩ ++ ⟨#[34]⟩ ++ s) p.size w (by rw [hsz]; omega) (by rw [hsz]; omega)
  rw [hd] at h
  have hrd := rd_qt (34 :: s.data.toList) v.data.toList esc
  rw [rd_quote, ← hR] at hrd
  rw [hrd] at h
  have e1 : p.size + 1 + (R.length + 1) = p.size + R.length + 2 := by omega
  simp only [List.append_nil, e1] at h
  exact h

theorem inv_any (p v s e : ByteArray) (w : World) (hp : p.size ≤ maxLen) (hv : v.size ≤ maxLen) (hs : s.size ≤ maxLen) (he : e.size ≤ maxLen) :
    Calls Try.prog 3 #[.string p, .string v, .string s, .string e] w fun en w' => en = .returned (.bool true) ∧ Below w.heap.size w w' := by
  by_cases h : 262144 < p.size ∨ 262144 < v.size ∨ 262144 < s.size ∨ 262144 < e.size
  · exact inv_easy p v s e w hp hv hs he h
  · have h1 : p.size ≤ 262144 := by omega
    have h2 : v.size ≤ 262144 := by omega
    have h3 : s.size ≤ 262144 := by omega
    have h4 : e.size ≤ 262144 := by omega
    have hl := qt_le v.data.toList e.data.toList
    have hvl : v.data.toList.length = v.size := rfl
    exact inv_core p v s e (qt v.data.toList e.data.toList) w h1 h2 h3 h4 (by omega) (quote_any v e w h2 h4) (fun w1 => inv_read p v s _ e.data.toList rfl h1 h2 h3 w1)
#print axioms inv_any
end Go.Proofs.Qxb6600307a
