/-
  envVariable and its shim at every text; the walk of FnEnvVariableMeasuresName.
-/
import Derived.Test.Qxb6600319aEnv2
namespace Go.Proofs.Qxb6600319a
open Go.RowKit

set_option maxHeartbeats 400000 in
theorem envV_no (s : ByteArray) (w : World)
    (H : Hid (Calls Try.prog 33 #[.string s, .string ⟨#[36, 123]⟩] w fun e w' => e = .returned (.bool false) ∧ w' = w)) :
    Calls Try.prog 28 #[.string s] w fun e w' => e = .returned (.int .i64 0) ∧ w' = w := by
  go_enter Try.func28, Try.ntmps28
  go_wp2_with (go_at_call 33; refine H.out.mono ?_; rintro e w' ⟨rfl, rfl⟩)
  go_ret
  exact ⟨rfl, rfl⟩

theorem envV_any (s : ByteArray) (w : World) (hs : s.size ≤ 10000000) :
    Calls Try.prog 28 #[.string s] w fun e w' => e = .returned (.int .i64 (env s.data.toList)) ∧ w' = w := by
  have hm : s.size ≤ maxLen := by unfold maxLen; omega
  have H := hp_any s w hm
  cases h : hd s.data.toList
  · rw [h] at H
    have e : env s.data.toList = 0 := by simp [env, h]
    rw [e]
    exact envV_no s w H
  · rw [h] at H
    have h2 : 2 ≤ s.size := by
      rcases Nat.lt_or_ge s.size 2 with h' | h'
      · rw [hd_short s.data.toList h'] at h; cases h
      · exact h'
    have e : env s.data.toList = ev (s.data.toList.drop 2) 2 := by simp [env, h]
    exact envV_core s _ w hs h2 e.symm H

set_option maxHeartbeats 400000 in
theorem shimE_core (s : ByteArray) (E : Nat) (w : World) (H : Hid (Calls Try.prog 28 #[.string s] w fun e w' => e = .returned (.int .i64 E) ∧ w' = w)) :
    Calls Try.prog 11 #[.string s] w fun e w' => e = .returned (.int .i64 E) ∧ w' = w := by
  go_enter Try.func11, Try.ntmps11
  go_wp2_with (go_at_call 28; refine H.out.mono ?_; rintro e w' ⟨rfl, rfl⟩)
  go_ret
  exact ⟨rfl, rfl⟩

theorem shimE_any (s : ByteArray) (w : World) (hs : s.size ≤ 10000000) :
    Calls Try.prog 11 #[.string s] w fun e w' => e = .returned (.int .i64 (env s.data.toList)) ∧ w' = w :=
  shimE_core s _ w (envV_any s w hs)

theorem zz14 (n r : ByteArray) (w : World) (hn : n.size ≤ maxLen) (hr : r.size ≤ maxLen) :
    Calls Try.prog 14 #[.string n, .string r] w fun en w' => ∃ b : Bool, en = .returned (.bool b) ∧ w' = w := by
  unfold maxLen at hn hr
  go_enter Try.func14, Try.ntmps14
  go_wp2
  all_goals
    go_ret
    exact ⟨_, rfl, rfl⟩

set_option maxHeartbeats 400000 in
theorem meas_easy (n r : ByteArray) (w : World) (hn : n.size ≤ maxLen) (hr : r.size ≤ maxLen) (h : 524288 < n.size ∨ 524288 < r.size) :
    Calls Try.prog 5 #[.string n, .string r] w fun en w' => en = .returned (.bool true) ∧ Below w.heap.size w w' := by
  have H : Hid (Calls Try.prog 14 #[.string n, .string r] w fun en w' => ∃ b : Bool, en = .returned (.bool b) ∧ w' = w) := zz14 n r w hn hr
  unfold maxLen at hn hr
  by_cases h1 : 524288 < n.size
  · clear h
    go_enter Try.func5, Try.ntmps5
    go_wp2_with (go_at_call 14; refine H.out.mono ?_)
    rintro en w' ⟨b, rfl, rfl⟩
    cases b <;> (go_wp2; go_ret; exact ⟨rfl, Below.refl _ _⟩)
  · have h2 : 524288 < r.size := by omega
    clear h
    go_enter Try.func5, Try.ntmps5
    go_wp2_with (go_at_call 14; refine H.out.mono ?_)
    rintro en w' ⟨b, rfl, rfl⟩
    cases b <;> (go_wp2; go_ret; exact ⟨rfl, Below.refl _ _⟩)

set_option maxHeartbeats 400000 in
theorem meas_no (n r : ByteArray) (w : World) (hn : n.size ≤ 524288) (hr : r.size ≤ 524288)
    (H : Hid (Calls Try.prog 15 #[.string n] w fun e w' => e = .returned (.bool false) ∧ w' = w)) :
    Calls Try.prog 5 #[.string n, .string r] w fun en w' => en = .returned (.bool true) ∧ Below w.heap.size w w' := by
  go_enter Try.func5, Try.ntmps5
  go_wp2_with (first | (go_at_call 15; refine H.out.mono ?_; rintro e w' ⟨rfl, rfl⟩) | (go_at_call 14; go_in))
  go_ret
  exact ⟨rfl, Below.refl _ _⟩

set_option maxHeartbeats 1000000 in
theorem meas_yes (n r : ByteArray) (w : World) (hn : n.size ≤ 524288) (hr : r.size ≤ 524288)
    (H : Hid (Calls Try.prog 15 #[.string n] w fun e w' => e = .returned (.bool true) ∧ w' = w))
    (H1 : Hid (Calls Try.prog 11 #[.string (⟨#[36, 123]⟩ ++ n ++ ⟨#[125]⟩ ++ r)] w fun e w' => e = .returned (.int .i64 ((n.size + 3 : Nat) : Int)) ∧ w' = w))
    (H2 : Hid (Calls Try.prog 11 #[.string (⟨#[36, 123]⟩ ++ n)] w fun e w' => e = .returned (.int .i64 0) ∧ w' = w))
    (H3 : Hid (Calls Try.prog 11 #[.string (⟨#[36, 123, 57]⟩ ++ n ++ ⟨#[125]⟩ ++ r)] w fun e w' => e = .returned (.int .i64 0) ∧ w' = w))
    (H4 : Hid (Calls Try.prog 11 #[.string (⟨#[36, 123]⟩ ++ n ++ ⟨#[45, 125]⟩ ++ r)] w fun e w' => e = .returned (.int .i64 0) ∧ w' = w)) :
    Calls Try.prog 5 #[.string n, .string r] w fun en w' => en = .returned (.bool true) ∧ Below w.heap.size w w' := by
  go_enter Try.func5, Try.ntmps5
  go_wp2_with (first | (go_at_call 15; refine H.out.mono ?_) | (go_at_call 14; go_in))
  rintro e w1 ⟨rfl, rfl⟩
  go_wp2_with (go_at_call 11; refine H1.out.mono ?_)
  rintro e w2 ⟨rfl, rfl⟩
  go_wp2_with (go_at_call 11; refine H2.out.mono ?_)
  rintro e w3 ⟨rfl, rfl⟩
  go_wp2_with (go_at_call 11; refine H3.out.mono ?_)
  rintro e w4 ⟨rfl, rfl⟩
  go_wp2_with (go_at_call 11; refine H4.out.mono ?_)
  rintro e w5 ⟨rfl, rfl⟩
  go_wp2
  go_ret
  exact ⟨rfl, Below.refl _ _⟩

theorem append_toList (a b : ByteArray) : (a ++ b).data.toList = a.data.toList ++ b.data.toList := by
  simp

theorem meas_any (n r : ByteArray) (w : World) (hn : n.size ≤ maxLen) (hr : r.size ≤ maxLen) :
    Calls Try.prog 5 #[.string n, .string r] w fun en w' => en = .returned (.bool true) ∧ Below w.heap.size w w' := by
  by_cases h : 524288 < n.size ∨ 524288 < r.size
  · exact meas_easy n r w hn hr h
  · have h1 : n.size ≤ 524288 := by omega
    have h2 : r.size ≤ 524288 := by omega
    have H := isName_any n w hn
    cases hb : isNm n.data.toList
    · rw [hb] at H
      exact meas_no n r w h1 h2 H
    · rw [hb] at H
      have z2 : (⟨#[36, 123]⟩ : ByteArray).size = 2 := rfl
      have z3 : (⟨#[36, 123, 57]⟩ : ByteArray).size = 3 := rfl
      have z1 : (⟨#[125]⟩ : ByteArray).size = 1 := rfl
      have z4 : (⟨#[45, 125]⟩ : ByteArray).size = 2 := rfl
      refine meas_yes n r w h1 h2 H ?_ ?_ ?_ ?_
      · have := shimE_any (⟨#[36, 123]⟩ ++ n ++ ⟨#[125]⟩ ++ r) w (by simp only [ByteArray.size_append]; omega)
        have e : env (⟨#[36, 123]⟩ ++ n ++ ⟨#[125]⟩ ++ r : ByteArray).data.toList = n.size + 3 := by
          refine Eq.trans ?_ (env_closed n.data.toList r.data.toList hb)
          simp only [append_toList]
          simp
        rw [e] at this
        exact this
      · have := shimE_any (⟨#[36, 123]⟩ ++ n) w (by simp only [ByteArray.size_append]; omega)
        have e : env (⟨#[36, 123]⟩ ++ n : ByteArray).data.toList = 0 := by
          have := env_open n.data.toList hb
          simp only [append_toList]
          simpa using this
        rw [e] at this
        exact this
      · have := shimE_any (⟨#[36, 123, 57]⟩ ++ n ++ ⟨#[125]⟩ ++ r) w (by simp only [ByteArray.size_append]; omega)
        have e : env (⟨#[36, 123, 57]⟩ ++ n ++ ⟨#[125]⟩ ++ r : ByteArray).data.toList = 0 := by
          have := env_digit (n.data.toList ++ 125 :: r.data.toList)
          simp only [append_toList]
          simpa using this
        rw [e] at this
        exact this
      · have := shimE_any (⟨#[36, 123]⟩ ++ n ++ ⟨#[45, 125]⟩ ++ r) w (by simp only [ByteArray.size_append]; omega)
        have e : env (⟨#[36, 123]⟩ ++ n ++ ⟨#[45, 125]⟩ ++ r : ByteArray).data.toList = 0 := by
          have := env_dash n.data.toList (125 :: r.data.toList) hb
          simp only [append_toList]
          simpa using this
        rw [e] at this
        exact this
#print axioms meas_any
end Go.Proofs.Qxb6600319a
