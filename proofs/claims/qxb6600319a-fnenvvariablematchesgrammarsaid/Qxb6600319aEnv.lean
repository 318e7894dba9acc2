/-
  The walks of isNameStart, isNameByte, isName, envVariable, its shim and envModel: the Go texts compute the plain functions.
-/
import Derived.Test.Qxb6600319aProg
import Derived.Test.Qxb6600319aEnvPlain
import Derived.WalkKit
import Derived.WalkSpells
import Derived.WalkLawsBesides
import Derived.Below
namespace Go.Proofs.Qxb6600319a
open Go.RowKit

theorem ret_b {a b : Bool} (h : a = b) : Ending.returned (.bool a) = .returned (.bool b) := by rw [h]
theorem ret_i {a b : Int} (h : a = b) : Ending.returned (.int .i64 a) = .returned (.int .i64 b) := by rw [h]

theorem nsB_true {n : Nat} (h : n = 95 ∨ (97 ≤ n ∧ n ≤ 122) ∨ (65 ≤ n ∧ n ≤ 90)) : nsB n = true := decide_eq_true h
theorem nsB_false {n : Nat} (h : ¬ (n = 95 ∨ (97 ≤ n ∧ n ≤ 122) ∨ (65 ≤ n ∧ n ≤ 90))) : nsB n = false := decide_eq_false h
theorem nsB_yes {n : Nat} (h : nsB n = true) : n = 95 ∨ (97 ≤ n ∧ n ≤ 122) ∨ (65 ≤ n ∧ n ≤ 90) := of_decide_eq_true h
theorem nsB_no {n : Nat} (h : nsB n = false) : ¬ (n = 95 ∨ (97 ≤ n ∧ n ≤ 122) ∨ (65 ≤ n ∧ n ≤ 90)) := of_decide_eq_false h

set_option maxHeartbeats 400000 in
theorem ns_any (n : Nat) (w : World) (hn : n < 256) :
    Calls Try.prog 29 #[.int .u8 n] w fun e w' => e = .returned (.bool (nsB n)) ∧ w' = w := by
  rcases (show n < 65 ∨ (65 ≤ n ∧ n ≤ 90) ∨ (91 ≤ n ∧ n ≤ 94) ∨ n = 95 ∨ n = 96 ∨ (97 ≤ n ∧ n ≤ 122) ∨ 122 < n from by omega) with h | ⟨h, h'⟩ | ⟨h, h'⟩ | h | h | ⟨h, h'⟩ | h
  all_goals
    try subst h
    go_enter Try.func29, Try.ntmps29
    go_wp2
    go_ret
    exact ⟨ret_b (by first | exact (nsB_true (by omega)).symm | exact (nsB_false (by omega)).symm | (rw [nsB_true (by omega)]; simp; omega) | (rw [nsB_false (by omega)]; simp; omega) | rfl), rfl⟩

theorem nbB_of_ns {n : Nat} (h : nsB n = true) : nbB n = true := by simp [nbB, h]
theorem nbB_of_not {n : Nat} (h : nsB n = false) : nbB n = decide (48 ≤ n ∧ n ≤ 57) := by simp [nbB, h]

set_option maxHeartbeats 400000 in
theorem nb_any (n : Nat) (w : World) (hn : n < 256) :
    Calls Try.prog 30 #[.int .u8 n] w fun e w' => e = .returned (.bool (nbB n)) ∧ w' = w := by
  cases hs : nsB n
  · have HS : Hid (nsB n = false) := hs
    have H : Hid (Calls Try.prog 29 #[.int .u8 n] w fun e w' => e = .returned (.bool false) ∧ w' = w) := by
      have := ns_any n w hn
      rw [hs] at this
      exact this
    clear hs
    rcases (show n < 48 ∨ (48 ≤ n ∧ n ≤ 57) ∨ 57 < n from by omega) with h | ⟨h, h'⟩ | h
    all_goals
      go_enter Try.func30, Try.ntmps30
      go_wp2_with (go_at_call 29; refine H.out.mono ?_; rintro e w' ⟨rfl, rfl⟩)
      go_ret
      exact ⟨ret_b (by rw [nbB_of_not HS.out]; first | exact (decide_eq_true (by omega)).symm | exact (decide_eq_false (by omega)).symm | (rw [decide_eq_true (show 48 ≤ n ∧ n ≤ 57 from by omega)]; simp; omega) | (rw [decide_eq_false (show ¬ (48 ≤ n ∧ n ≤ 57) from by omega)]; simp; omega)), rfl⟩
  · have HS : Hid (nsB n = true) := hs
    have H : Hid (Calls Try.prog 29 #[.int .u8 n] w fun e w' => e = .returned (.bool true) ∧ w' = w) := by
      have := ns_any n w hn
      rw [hs] at this
      exact this
    clear hs
    go_enter Try.func30, Try.ntmps30
    go_wp2_with (go_at_call 29; refine H.out.mono ?_; rintro e w' ⟨rfl, rfl⟩)
    go_ret
    exact ⟨ret_b (nbB_of_ns HS.out).symm, rfl⟩

theorem byte_lt (s : ByteArray) (k : Nat) (h : k < s.size) : s[k].toNat < 256 := UInt8.toNat_lt _

set_option maxHeartbeats 400000 in
theorem isName_any (s : ByteArray) (w : World) (hs : s.size ≤ maxLen) :
    Calls Try.prog 15 #[.string s] w fun e w' => e = .returned (.bool (isNm s.data.toList)) ∧ w' = w := by
  unfold maxLen at hs
  by_cases h0 : s.size = 0
  · have e0 : Hid (isNm s.data.toList = false) := by
      have : s.data.toList = [] := List.length_eq_zero_iff.1 h0
      show isNm s.data.toList = false
      rw [this]; rfl
    have e1 : ((s.size : Int) == 0) = true := by simp [h0]
    clear h0
    go_enter Try.func15, Try.ntmps15
    go_wp2
    go_ret
    exact ⟨ret_b e0.out.symm, rfl⟩
  · have hp : 0 < s.size := by omega
    have e1 : ((s.size : Int) == 0) = false := by rw [beq_eq_false_iff_ne]; omega
    clear h0
    have hl0 : s.data.toList = s[0] :: s.data.toList.drop 1 := by
      exact List.drop_eq_getElem_cons (l := s.data.toList) (i := 0) (by simpa using hp)
    cases hb : nsB s[0].toNat
    · have H : Hid (Calls Try.prog 29 #[.int .u8 s[0].toNat] w fun e w' => e = .returned (.bool false) ∧ w' = w) := by
        have := ns_any s[0].toNat w (byte_lt s 0 hp)
        rw [hb] at this
        exact this
      have e2 : Hid (isNm s.data.toList = false) := by
        show isNm s.data.toList = false
        rw [hl0]; simp [isNm, hb]
      clear hb hl0
      go_enter Try.func15, Try.ntmps15
      go_wp2_with (go_at_call 29; refine H.out.mono ?_; rintro e w' ⟨rfl, rfl⟩)
      go_ret
      exact ⟨ret_b e2.out.symm, rfl⟩
    · have H : Hid (Calls Try.prog 29 #[.int .u8 s[0].toNat] w fun e w' => e = .returned (.bool true) ∧ w' = w) := by
        have := ns_any s[0].toNat w (byte_lt s 0 hp)
        rw [hb] at this
        exact this
      have e2 : Hid (isNm (s.data.toList.take 1) = true) := by
        show isNm (s.data.toList.take 1) = true
        rw [hl0]; simp [isNm, hb]
      clear hb hl0
      go_enter Try.func15, Try.ntmps15
      go_wp2_with (go_at_call 29; refine H.out.mono ?_; rintro e w' ⟨rfl, rfl⟩)
      clear H
      go_loop [3] (fun i => ∃ k : Nat, 1 ≤ k ∧ k ≤ s.size ∧ i = .int .i64 k ∧ Hid (isNm (s.data.toList.take k) = true)) (fun i => s.size - (intOf i).toNat)
      case atStart => exact ⟨1, by omega, by omega, rfl, e2⟩
      case round =>
        obtain ⟨k, hk1, hk, rfl, hj⟩ := hrel
        by_cases hlt : k < s.size
        · cases hb : nbB s[k].toNat
          · have HB : Hid (isNm s.data.toList = false) := isNm_fail s.data.toList k (by simpa using hlt) hk1 hb
            go_wp2_with (go_at_call 30; refine (nb_any s[k].toNat _ (byte_lt s k hlt)).mono ?_; rintro e w' ⟨rfl, rfl⟩)
            go_ret
            exact ⟨ret_b HB.out.symm, rfl⟩
          · have HB : Hid (isNm (s.data.toList.take (k + 1)) = true) := by
              show isNm (s.data.toList.take (k + 1)) = true
              rw [isNm_take s.data.toList k (by simpa using hlt) hk1, hj.out]
              exact hb
            go_wp2_with (go_at_call 30; refine (nb_any s[k].toNat _ (byte_lt s k hlt)).mono ?_; rintro e w' ⟨rfl, rfl⟩)
            go_round
            case rel => exact ⟨k + 1, by omega, by omega, by go_num, HB⟩
            case measure => simp [intOf]; omega
        · have HB : Hid (isNm s.data.toList = true) := by
            have := hj.out
            rw [List.take_of_length_le (by simp only [Array.length_toList]; show s.size ≤ k; omega)] at this
            exact this
          go_wp2
          go_ret
          exact ⟨ret_b HB.out.symm, rfl⟩
end Go.Proofs.Qxb6600319a
