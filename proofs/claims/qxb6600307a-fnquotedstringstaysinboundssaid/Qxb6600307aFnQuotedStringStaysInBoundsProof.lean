/-
  'Rows.FnQuotedStringStaysInBoundsSaid': the frame is the kit's shell at this function; the walk is filled in.
-/
import Derived.Test.Qxb6600307aRows
import Derived.Test.Qxb6600307aRead
import Derived.WalkKit
import Derived.ProofKit
import Derived.OpenShut
import Derived.ShutString
import Derived.ChangeOld
import Derived.Below
namespace Go.Proofs.Qxb6600307a.fnQuotedStringStaysInBounds
open Go.ChangeShapes Go.WideShapes Go.ChangeAt Go.RowKit
open Go.ChangeMaps (open_string shut_string)
set_option linter.unusedVariables false      -- a walk need not use every 'w<i>' (that an integer argument fits its kind)

theorem own : ownKnob Try.prog.godebug = none := by kernel_rfl

/-! ### STEP 1: THE WALK -/
theorem ret_bool {b : Bool} (h : b = true) : Ending.returned (.bool b) = .returned (.bool true) := by rw [h]
set_option maxHeartbeats 1000000 in
theorem core (s : ByteArray) (st m : Nat) (V : List UInt8) (w : World) (hs : s.size ≤ 1048576) (hst : st < s.size) (h1 : st ≤ m) (h2 : m < s.size)
    (h3 : m + 1 < s.size → st + 1 ≤ m ∧ (((s[m].toNat : Int)) == 34) = true ∧ V.length + st + 1 ≤ m) (h6 : V.length + st ≤ m)
    (H : Hid (Calls Try.prog 8 #[.string s, .int .i64 st] w fun e w' => e = .returned (.tuple #[.string ⟨V.toArray⟩, .int .i64 ((m + 1 : Nat) : Int)]) ∧ Below w.heap.size w w')) :
    Calls Try.prog 5 #[.string s, .int .i64 st] w fun e w' => e = .returned (.bool true) ∧ Below w.heap.size w w' := by
  by_cases hlt : m + 1 < s.size
  · obtain ⟨h4, h5, h7⟩ := h3 hlt
    clear h3
    go_enter Try.func5, Try.ntmps5
    go_wp2_with (first | (go_at_call 8; refine H.out.mono ?_) | go_in)
    rintro e W1 ⟨rfl, b1⟩
    go_wp2
    go_ret
    exact ⟨ret_bool (b := decide ((V.length : Int) ≤ (m : Int) + 1 - st - 2)) (by simp; omega), b1⟩
  · clear h3
    go_enter Try.func5, Try.ntmps5
    go_wp2_with (first | (go_at_call 8; refine H.out.mono ?_) | go_in)
    rintro e W1 ⟨rfl, b1⟩
    go_wp2
    go_ret
    exact ⟨ret_bool (b := decide ((V.length : Int) ≤ (m : Int) + 1 - st - 1)) (by simp; omega), b1⟩

set_option maxHeartbeats 400000 in
theorem easy (s : ByteArray) (st : Int) (w : World) (w0 : s.size ≤ maxLen) (h : 1048576 < s.size ∨ st < 0 ∨ (s.size : Int) ≤ st) :
    Calls Try.prog 5 #[.string s, .int .i64 st] w fun e w' => e = .returned (.bool true) ∧ Below w.heap.size w w' := by
  unfold maxLen at w0
  by_cases hs : 1048576 < s.size
  · clear h
    go_enter Try.func5, Try.ntmps5
    go_wp2
    go_ret
    exact ⟨rfl, Below.refl _ _⟩
  · by_cases h0 : st < 0
    · clear h
      go_enter Try.func5, Try.ntmps5
      go_wp2
      go_ret
      exact ⟨rfl, Below.refl _ _⟩
    · have h1 : (s.size : Int) ≤ st := by omega
      clear h
      go_enter Try.func5, Try.ntmps5
      go_wp2
      go_ret
      exact ⟨rfl, Below.refl _ _⟩

theorem walk (a0 : ByteArray) (a1 : Int) (w0 : a0.size ≤ maxLen) (w1 : (Lit.int .i64 a1).wf = true) (w : World) :
    Calls Try.prog 5 #[.string a0, .int .i64 a1] w fun e w' => e = .returned (.bool true) ∧ Below w.heap.size w w' := by
  by_cases h : 1048576 < a0.size ∨ a1 < 0 ∨ (a0.size : Int) ≤ a1
  · exact easy a0 a1 w w0 h
  · obtain ⟨st, rfl⟩ : ∃ st : Nat, a1 = st := ⟨a1.toNat, by omega⟩
    have hs : a0.size ≤ 1048576 := by omega
    have hst : st < a0.size := by omega
    have hg := good_rd _ (a0.data.toList.drop (st + 1)) (Nat.le_refl _)
    have hc := shim_any a0 st w (by omega) hst
    generalize hr : rd (a0.data.toList.drop (st + 1)) = r at hg hc
    obtain ⟨V, n⟩ := r
    obtain ⟨g1, g2, g3⟩ := hg
    have hl : (a0.data.toList.drop (st + 1)).length = a0.size - (st + 1) := by rw [List.length_drop]; rfl
    rw [hl] at g1 g3
    simp only at g1 g2 g3 hc
    refine core a0 st (st + n) V w hs hst (by omega) (by omega) ?_ (by omega) ?_
    · intro hlt
      obtain ⟨k1, k2, k3⟩ := g3 (by omega)
      refine ⟨by omega, ?_, by omega⟩
      rw [List.getElem?_drop] at k2
      have e : st + 1 + (n - 1) = st + n := by omega
      rw [e] at k2
      have k4 : a0[st + n]'(by omega) = 34 := by
        have := List.getElem?_eq_some_iff.1 k2
        obtain ⟨_, h⟩ := this
        exact h
      rw [k4]; rfl
    · have e : st + 1 + n = st + n + 1 := by omega
      rw [e] at hc
      exact hc

/-! ### THE ROW's STEP: WRITTEN OUT: LEAVE IT -/
set_option maxRecDepth 100000 in
theorem lifted (os : Os) (started : os.Started) (H : Type) (enc : TypeId × Value → H) :
    ReturnsInHanded {} Try.checked os 5 .any (Rows.fnQuotedStringStaysInBoundsSpec.pre6 enc Try.prog Try.f5 Rows.fnQuotedStringStaysInBoundsRow.domain false) (Rows.fnQuotedStringStaysInBoundsSpec.post enc Try.prog Try.f5 false true false false) := by
  refine returnsInHanded_of_change (C := Try.checked) own started (by kernel_rfl) Try.func5
    (ChangeSpec.witness6 (enc := enc) (C := Try.checked) false ⟨#[], #[.string ByteArray.empty, .int .i64 0], []⟩ 8 (by kernel_rfl) (by kernel_rfl) (by kernel_rfl) (by kernel_rfl)) ?_
  intro W base args ds gs before hval0 hW hcnd _
  have hval : ∀ (j : Nat) t v, Try.f5.params[j]? = some t → args[j]? = some v → Value.okWide Try.prog W .any base t v := hval0
  have hW' := hW
  obtain ⟨p, q, hA0, hV, rfl, hfz, hnd⟩ := hW
  have hA : DataW.TrodAll enc Try.prog W 0 (fun _ => true) true Try.f5.params.toList args.toList ds p := hA0
  rw [Try.params5] at hA hval
  obtain ⟨v0, vs0, d0, ds0, p0, q0, hargs, rfl, rfl, h0, r0⟩ := trodAll_cons hA
  obtain ⟨v1, vs1, d1, ds1, p1, q1, rfl, rfl, rfl, h1, r1⟩ := trodAll_cons r0
  obtain ⟨rfl, rfl, rfl⟩ := trodAll_nil r1
  obtain rfl : args = #[v0, v1] := by cases args; simp_all
  obtain ⟨rfl, rfl⟩ := trodVars_none hV
  obtain ⟨a0, rfl, rfl, rfl, w0⟩ := open_string Try.underlying9 (hval 0 9 v0 rfl rfl) h0
  obtain ⟨a1, rfl, rfl, rfl, w1⟩ := open_int Try.underlying3 (hval 1 3 v1 rfl rfl) h1
  clear hA0 hval0
  simp only [List.append_nil] at hW'
  refine (walk a0 a1 w0 w1 W).mono fun e W' ⟨he, bel⟩ => ?_
  subst he
  exact ⟨_, rfl, _, _, _, [], [], [], hW', trodAll_mk1 (shut_bool Try.underlying4 _), (trodAll_cons_mk (shut_string Try.underlying9 w0) (trodAll_cons_mk (shut_int Try.underlying3 w1) trodAll_mk0)), rfl, bel.frame _, fun h => by cases h⟩

theorem over : Rows.fnQuotedStringStaysInBoundsRow.holds Try.pinned (OpenSpec.ofChange Rows.fnQuotedStringStaysInBoundsSpec) :=
  OpenClaim.holds_of_wide 5 Try.f5 rfl rfl rfl rfl rfl rfl rfl ⟨rfl, rfl, rfl, rfl, rfl⟩ rfl rfl rfl rfl rfl (by kernel_rfl) Try.func5 (by kernel_rfl)
    (of_decide_eq_true (by kernel_rfl)) (by unfold Func.isWrapper; first | (rw [if_pos (by decide +kernel)]; kernel_rfl) | (rw [if_neg (by decide +kernel)]; exact ⟨rfl, rfl⟩))
    (fun os started H enc _ => lifted os started H enc)

/-- ████ THE STATEMENT ████ -/
theorem proved : Rows.FnQuotedStringStaysInBoundsSaid :=
  over
#print axioms proved
end Go.Proofs.Qxb6600307a.fnQuotedStringStaysInBounds
