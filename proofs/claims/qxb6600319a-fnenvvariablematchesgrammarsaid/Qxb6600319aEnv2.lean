/-
  The walks of envVariable, its shim and envModel.
-/
import Derived.Test.Qxb6600319aEnv
import Derived.Lib.Strings
namespace Go.Proofs.Qxb6600319a
open Go.RowKit

/-- What is still to be scanned gives the answer. -/
def JE (s : ByteArray) (E k : Nat) : Prop := ev (s.data.toList.drop k) k = E

theorem je_step {s : ByteArray} {E k : Nat} (h : JE s E k) (hk : k < s.size) : (if s[k].toNat = 125 ∧ 2 < k then k + 1 else if nsB s[k].toNat = true ∨ (2 < k ∧ nbB s[k].toNat = true) then ev (s.data.toList.drop (k + 1)) (k + 1) else 0) = E := by
  unfold JE at h
  rw [ev_drop s.data.toList k (by simpa using hk)] at h
  exact h

theorem je_end {s : ByteArray} {E k : Nat} (h : JE s E k) (hk : s.size ≤ k) : E = 0 := by
  unfold JE at h
  rw [List.drop_eq_nil_of_le (by simpa using hk)] at h
  exact h.symm

theorem je_brace {s : ByteArray} {E k : Nat} (h : JE s E k) (hk : k < s.size) (hc : (s[k].toNat : Int) = 125) (h2 : 2 < k) : E = k + 1 := by
  have := je_step h hk
  rw [if_pos ⟨by omega, h2⟩] at this
  exact this.symm

theorem je_next {s : ByteArray} {E k : Nat} (h : JE s E k) (hk : k < s.size)
    (hc : (s[k].toNat : Int) = 95 ∨ (97 ≤ (s[k].toNat : Int) ∧ (s[k].toNat : Int) ≤ 122) ∨ (65 ≤ (s[k].toNat : Int) ∧ (s[k].toNat : Int) ≤ 90) ∨ (2 < k ∧ 48 ≤ (s[k].toNat : Int) ∧ (s[k].toNat : Int) ≤ 57)) : JE s E (k + 1) := by
  have := je_step h hk
  rw [if_neg (by omega)] at this
  rw [if_pos] at this
  · exact this
  · by_cases hs : nsB s[k].toNat = true
    · exact Or.inl hs
    · right
      have hs' : nsB s[k].toNat = false := by simpa using hs
      have := nsB_no hs'
      refine ⟨by omega, ?_⟩
      rw [nbB_of_not hs']
      exact decide_eq_true (by omega)

theorem je_refuse {s : ByteArray} {E k : Nat} (h : JE s E k) (hk : k < s.size)
    (h1 : ¬ ((s[k].toNat : Int) = 125 ∧ 2 < k)) (h2 : ¬ ((s[k].toNat : Int) = 95 ∨ (97 ≤ (s[k].toNat : Int) ∧ (s[k].toNat : Int) ≤ 122) ∨ (65 ≤ (s[k].toNat : Int) ∧ (s[k].toNat : Int) ≤ 90)))
    (h3 : ¬ (2 < k ∧ 48 ≤ (s[k].toNat : Int) ∧ (s[k].toNat : Int) ≤ 57)) : E = 0 := by
  have := je_step h hk
  rw [if_neg (by omega)] at this
  have hs : nsB s[k].toNat = false := nsB_false (by omega)
  rw [if_neg] at this
  · exact this.symm
  · rintro (h | ⟨ha, hb⟩)
    · rw [hs] at h; cases h
    · rw [nbB_of_not hs] at hb
      have := of_decide_eq_true hb
      omega

theorem take_hd (l : List UInt8) (h : 2 ≤ l.length) : (List.take (2 - 0) (List.drop 0 l) == [36, 123]) = (l[0].toNat == 36 && l[1].toNat == 123) := by
  match l, h with
  | a :: b :: t, _ =>
    simp only [List.drop_zero, Nat.sub_zero, List.take_succ_cons, List.take_zero]
    rw [Bool.eq_iff_iff]
    simp [← UInt8.toNat_inj]

theorem pre_hd (s : ByteArray) (h : 2 ≤ s.size) : ((s.extract 0 2).toList == [36, 123]) = hd s.data.toList := by
  rw [Lib.extract_toList, hd_two s.data.toList h]
  exact take_hd s.data.toList h

set_option maxHeartbeats 400000 in
theorem hp_any (s : ByteArray) (w : World) (hs : s.size ≤ maxLen) :
    Calls Try.prog 33 #[.string s, .string ⟨#[36, 123]⟩] w fun e w' => e = .returned (.bool (hd s.data.toList)) ∧ w' = w := by
  unfold maxLen at hs
  by_cases h2 : 2 ≤ s.size
  · go_enter Try.func33, Try.ntmps33
    go_wp2
    go_ret
    exact ⟨ret_b (pre_hd s h2), rfl⟩
  · go_enter Try.func33, Try.ntmps33
    go_wp2
    go_ret
    exact ⟨ret_b (hd_short s.data.toList (by show s.size < 2; omega)).symm, rfl⟩

set_option maxHeartbeats 1000000 in
theorem envV_core (s : ByteArray) (E : Nat) (w : World) (hs : s.size ≤ 10000000) (h2 : 2 ≤ s.size) (hj : JE s E 2)
    (H : Hid (Calls Try.prog 33 #[.string s, .string ⟨#[36, 123]⟩] w fun e w' => e = .returned (.bool true) ∧ w' = w)) :
    Calls Try.prog 28 #[.string s] w fun e w' => e = .returned (.int .i64 E) ∧ w' = w := by
  go_enter Try.func28, Try.ntmps28
  go_wp2_with (go_at_call 33; refine H.out.mono ?_; rintro e w' ⟨rfl, rfl⟩)
  clear H
  go_loop [3] (fun i => ∃ k : Nat, 2 ≤ k ∧ k ≤ s.size ∧ i = .int .i64 k ∧ JE s E k) (fun i => s.size - (intOf i).toNat)
  case atStart => exact ⟨2, by omega, by omega, rfl, hj⟩
  case round =>
    obtain ⟨k, hk2, hk, rfl, hjk⟩ := hrel
    by_cases hlt : k < s.size
    · have hb := byte_lt s k hlt
      by_cases h95 : (s[k].toNat : Int) = 95
      · have e95 : ((s[k].toNat : Int) == 95) = true := by simpa using h95
        have e125 : ((s[k].toNat : Int) == 125) = false := by rw [beq_eq_false_iff_ne]; omega
        have hn : JE s E (k + 1) := je_next hjk hlt (Or.inl h95)
        clear h95 hjk
        go_wp2
        go_round
        case rel => exact ⟨k + 1, by omega, by omega, by go_num, hn⟩
        case measure => simp [intOf]; omega
      · have e95 : ((s[k].toNat : Int) == 95) = false := by simpa using h95
        clear h95
        have e95' : (s[k].toNat : Int) ≠ 95 := by simpa using e95
        go_wp2
        all_goals first
          | (go_round
             case rel => exact ⟨k + 1, by omega, by omega, by go_num, je_next hjk hlt (by omega)⟩
             case measure => simp [intOf]; omega)
          | (go_ret
             first
               | exact ⟨ret_i (by rw [je_brace hjk hlt (by omega) (by omega)]; rfl), rfl⟩
               | exact ⟨ret_i (by rw [je_refuse hjk hlt (by omega) (by omega) (by omega)]; rfl), rfl⟩)
    · have HE : Hid (E = 0) := je_end hjk (by omega)
      go_wp2
      go_ret
      exact ⟨ret_i (by rw [HE.out]; rfl), rfl⟩
end Go.Proofs.Qxb6600319a
