/-
  The walk of envModel and of FnEnvVariableMatchesGrammar.
-/
import Derived.Test.Qxb6600319aMeas
namespace Go.Proofs.Qxb6600319a
open Go.RowKit

/-- What is still to be searched gives the place of the first closing brace. -/
def JF (s : ByteArray) (F : Option Nat) (k : Nat) : Prop := fb (s.data.toList.drop k) k = F

theorem jf_hit {s : ByteArray} {F : Option Nat} {k : Nat} (h : JF s F k) (hk : k < s.size) (hc : (s[k].toNat : Int) = 125) : F = some k := by
  unfold JF at h
  rw [fb_drop s.data.toList k (by simpa using hk), if_pos (by show s[k].toNat = 125; omega)] at h
  exact h.symm

theorem jf_miss {s : ByteArray} {F : Option Nat} {k : Nat} (h : JF s F k) (hk : k < s.size) (hc : ¬ (s[k].toNat : Int) = 125) : JF s F (k + 1) := by
  unfold JF at h ⊢
  rw [fb_drop s.data.toList k (by simpa using hk), if_neg (by show ¬ s[k].toNat = 125; omega)] at h
  exact h

theorem jf_end {s : ByteArray} {F : Option Nat} {k : Nat} (h : JF s F k) (hk : s.size ≤ k) : F = none := by
  unfold JF at h
  rw [List.drop_eq_nil_of_le (by simpa using hk)] at h
  exact h.symm

/-- What the model answers, the brace's place given. -/
def ans (s : ByteArray) (F : Option Nat) : Nat := match F with | none => 0 | some b => if isNm ((s.data.toList.take b).drop 2) then b + 1 else 0

theorem ans_hit {s : ByteArray} {F : Option Nat} {k : Nat} (h : F = some k) (hb : isNm (s.extract 2 k).data.toList = true) : ans s F = k + 1 := by
  subst h
  rw [Lib.extract_data, ← List.drop_take] at hb
  simp [ans, hb]

theorem ans_not {s : ByteArray} {F : Option Nat} {k : Nat} (h : F = some k) (hb : isNm (s.extract 2 k).data.toList = false) : ans s F = 0 := by
  subst h
  rw [Lib.extract_data, ← List.drop_take] at hb
  simp [ans, hb]

set_option maxHeartbeats 1000000 in
theorem model_core (s : ByteArray) (F : Option Nat) (w : World) (hs : s.size ≤ 10000000) (h2 : 2 ≤ s.size) (e0 : ((s[0].toNat : Int) != 36) = false) (e1 : ((s[1].toNat : Int) != 123) = false) (hj : JF s F 2) :
    Calls Try.prog 12 #[.string s] w fun e w' => e = .returned (.int .i64 (ans s F)) ∧ w' = w := by
  go_enter Try.func12, Try.ntmps12
  go_wp2
  go_loop [3, 4] (fun b i => ∃ k : Nat, 2 ≤ k ∧ k ≤ s.size ∧ i = .int .i64 k ∧ b = .int .i64 (-1) ∧ JF s F k) (fun _ i => s.size - (intOf i).toNat)
  case atStart => exact ⟨2, by omega, by omega, rfl, rfl, hj⟩
  case round =>
    obtain ⟨k, hk2, hk, rfl, rfl, hjk⟩ := hrel
    by_cases hlt : k < s.size
    · by_cases hc : (s[k].toNat : Int) = 125
      · have e125 : ((s[k].toNat : Int) == 125) = true := by simpa using hc
        have HF : Hid (F = some k) := jf_hit hjk hlt hc
        clear hc hjk hj
        have HX := isName_any (s.extract 2 k) w (by rw [ByteArray.size_extract]; unfold maxLen; omega)
        cases hb : isNm (s.extract 2 k).data.toList
        · rw [hb] at HX
          have HA : Hid (ans s F = 0) := ans_not HF.out hb
          have H : Hid (Calls Try.prog 15 #[.string (s.extract 2 k)] w fun e w' => e = .returned (.bool false) ∧ w' = w) := HX
          clear HX hb
          go_wp2_with (go_at_call 15; refine H.out.mono ?_; rintro e w' ⟨rfl, rfl⟩)
          go_ret
          exact ⟨ret_i (by rw [HA.out]; rfl), rfl⟩
        · rw [hb] at HX
          have HA : Hid (ans s F = k + 1) := ans_hit HF.out hb
          have H : Hid (Calls Try.prog 15 #[.string (s.extract 2 k)] w fun e w' => e = .returned (.bool true) ∧ w' = w) := HX
          clear HX hb
          go_wp2_with (go_at_call 15; refine H.out.mono ?_; rintro e w' ⟨rfl, rfl⟩)
          go_ret
          exact ⟨ret_i (by rw [HA.out]; rfl), rfl⟩
      · have e125 : ((s[k].toNat : Int) == 125) = false := by simpa using hc
        have hn := jf_miss hjk hlt hc
        clear hc hjk
        go_wp2
        go_round
        case rel => exact ⟨k + 1, by omega, by omega, by go_num, rfl, hn⟩
        case measure => simp [intOf]; omega
    · have HF : Hid (F = none) := jf_end hjk (by omega)
      go_wp2
      go_ret
      exact ⟨ret_i (by rw [HF.out]; rfl), rfl⟩

set_option maxHeartbeats 400000 in
theorem model_no (s : ByteArray) (w : World) (hs : s.size ≤ 10000000) (h : s.size < 2 ∨ ∃ h2 : 2 ≤ s.size, ((s[0].toNat : Int) != 36) = true ∨ (((s[0].toNat : Int) != 36) = false ∧ ((s[1].toNat : Int) != 123) = true)) :
    Calls Try.prog 12 #[.string s] w fun e w' => e = .returned (.int .i64 0) ∧ w' = w := by
  rcases h with h | ⟨h2, e0 | ⟨e0, e1⟩⟩
  all_goals
    go_enter Try.func12, Try.ntmps12
    go_wp2
    go_ret
    exact ⟨rfl, rfl⟩

theorem model_any (s : ByteArray) (w : World) (hs : s.size ≤ 10000000) :
    Calls Try.prog 12 #[.string s] w fun e w' => e = .returned (.int .i64 (mdl s.data.toList)) ∧ w' = w := by
  by_cases h2 : 2 ≤ s.size
  · have hh : hd s.data.toList = (s[0].toNat == 36 && s[1].toNat == 123) := hd_two s.data.toList h2
    by_cases h0 : s[0].toNat = 36
    · have e0 : ((s[0].toNat : Int) != 36) = false := by rw [h0]; rfl
      by_cases h1 : s[1].toNat = 123
      · have e1 : ((s[1].toNat : Int) != 123) = false := by rw [h1]; rfl
        have hh' : hd s.data.toList = true := by
          rw [hh, h0, h1]; rfl
        have e : mdl s.data.toList = ans s (fb (s.data.toList.drop 2) 2) := by
          simp only [mdl, hh', if_true]
          rfl
        rw [e]
        exact model_core s _ w hs h2 e0 e1 rfl
      · have e1 : ((s[1].toNat : Int) != 123) = true := by
          rw [bne_iff_ne]; omega
        have hh' : hd s.data.toList = false := by
          rw [hh]
          simp [h1]
        have e : mdl s.data.toList = 0 := by simp [mdl, hh']
        rw [e]
        exact model_no s w hs (Or.inr ⟨h2, Or.inr ⟨e0, e1⟩⟩)
    · have e0 : ((s[0].toNat : Int) != 36) = true := by
        rw [bne_iff_ne]; omega
      have hh' : hd s.data.toList = false := by
        rw [hh]
        simp [h0]
      have e : mdl s.data.toList = 0 := by simp [mdl, hh']
      rw [e]
      exact model_no s w hs (Or.inr ⟨h2, Or.inl e0⟩)
  · have e : mdl s.data.toList = 0 := by simp [mdl, hd_short s.data.toList (by show s.size < 2; omega)]
    rw [e]
    exact model_no s w hs (Or.inl (by omega))

set_option maxHeartbeats 400000 in
theorem gram_easy (s : ByteArray) (w : World) (hs : s.size ≤ maxLen) (h : 1048576 < s.size) :
    Calls Try.prog 3 #[.string s] w fun en w' => en = .returned (.bool true) ∧ Below w.heap.size w w' := by
  unfold maxLen at hs
  go_enter Try.func3, Try.ntmps3
  go_wp2
  go_ret
  exact ⟨rfl, Below.refl _ _⟩

set_option maxHeartbeats 400000 in
theorem gram_core (s : ByteArray) (E : Nat) (w : World) (hs : s.size ≤ 1048576)
    (H1 : Hid (Calls Try.prog 11 #[.string s] w fun e w' => e = .returned (.int .i64 E) ∧ w' = w))
    (H2 : Hid (Calls Try.prog 12 #[.string s] w fun e w' => e = .returned (.int .i64 E) ∧ w' = w)) :
    Calls Try.prog 3 #[.string s] w fun en w' => en = .returned (.bool true) ∧ Below w.heap.size w w' := by
  go_enter Try.func3, Try.ntmps3
  go_wp2_with (first | (go_at_call 11; refine H1.out.mono ?_) | (go_at_call 10; go_in))
  rintro e w1 ⟨rfl, rfl⟩
  go_wp2_with (go_at_call 12; refine H2.out.mono ?_)
  rintro e w2 ⟨rfl, rfl⟩
  go_wp2
  go_ret
  exact ⟨ret_b (by simp), Below.refl _ _⟩

theorem gram_any (s : ByteArray) (w : World) (hs : s.size ≤ maxLen) :
    Calls Try.prog 3 #[.string s] w fun en w' => en = .returned (.bool true) ∧ Below w.heap.size w w' := by
  by_cases h : 1048576 < s.size
  · exact gram_easy s w hs h
  · have H1 := shimE_any s w (by omega)
    have H2 := model_any s w (by omega)
    rw [← env_mdl] at H2
    exact gram_core s _ w (by omega) H1 H2
#print axioms gram_any
end Go.Proofs.Qxb6600319a
