/-
  A proof of 'Rows.FnRwTakeWriteSpecSaid': the frame is the guide's (proof-skeleton.mjs); the walk is filled in.
-/
import Derived.Test.Qxb6001135aRows
import Derived.Test.Qxb6001135aWalksOf
import Derived.WalkKit
import Derived.ProofKit
import Derived.OpenShut
import Derived.ShutString
namespace Go.Proofs.Qxb6001135a.fnRwTakeWriteSpec
open Go.ChangeShapes Go.WideShapes Go.ChangeAt Go.RowKit
open Go.ChangeMaps (open_string shut_string)
set_option linter.unusedVariables false      -- a walk need not use every 'w<i>' (that an integer argument fits its kind)

theorem own : ownKnob Try.prog.godebug = none := by kernel_rfl

/-! ### STEP 1: THE WALK: the ways through 'free' are parted ahead -/
theorem fits (s : Int) (h : (Lit.int .u64 s).wf = true) : W64 s := by
  have := bounds_u64 h
  exact ⟨this.1, by omega⟩

set_option maxHeartbeats 1000000 in
set_option maxRecDepth 100000 in
theorem walk_0 (s : Int) (h : W64 s) (c1 : vW s = true) (w : World) :
    Calls Try.prog 3 #[.int .u64 s] w fun e w' => e = .returned (.bool true) ∧ Grown w w' := by
  have nf := tN_f
  have nt := tN_t
  have of := tO_f
  have ot := tO_t
  have xW := x_W h
  have xQ := x_Q h
  have xR := x_R h
  have xB := x_B h
  have xX := x_X h
  have xo := x_o h
  have b0 : 0 ≤ s := h.1
  have b1 : 0 ≤ tX s := (tX_fits h).1
  have no : tXo s = false := x_no h (.inl c1)
  clear h
  go_enter Try.func3, Try.ntmps3
  go_wp2_with (first
    | (go_at_call 6; refine (view_any _ (by omega) _).mono ?_; rintro e w' ⟨rfl, rfl⟩)
    | (go_at_call 7; refine (take_any _ _ _).mono ?_; rintro e w' ⟨rfl, rfl⟩))
  go_ret
  exact ⟨rfl, by repeat (first | exact Grown.refl _ | apply Grown.drew | apply Grown.alloc)⟩

set_option maxHeartbeats 1000000 in
set_option maxRecDepth 100000 in
theorem walk_1 (s : Int) (h : W64 s) (c1 : vW s = false) (c2 : vQ s = true) (w : World) :
    Calls Try.prog 3 #[.int .u64 s] w fun e w' => e = .returned (.bool true) ∧ Grown w w' := by
  have nf := tN_f
  have nt := tN_t
  have of := tO_f
  have ot := tO_t
  have xW := x_W h
  have xQ := x_Q h
  have xR := x_R h
  have xB := x_B h
  have xX := x_X h
  have xo := x_o h
  have b0 : 0 ≤ s := h.1
  have b1 : 0 ≤ tX s := (tX_fits h).1
  have no : tXo s = false := x_no h (.inr (.inl c2))
  clear h
  go_enter Try.func3, Try.ntmps3
  go_wp2_with (first
    | (go_at_call 6; refine (view_any _ (by omega) _).mono ?_; rintro e w' ⟨rfl, rfl⟩)
    | (go_at_call 7; refine (take_any _ _ _).mono ?_; rintro e w' ⟨rfl, rfl⟩))
  go_ret
  exact ⟨rfl, by repeat (first | exact Grown.refl _ | apply Grown.drew | apply Grown.alloc)⟩

set_option maxHeartbeats 1000000 in
set_option maxRecDepth 100000 in
theorem walk_2 (s : Int) (h : W64 s) (c1 : vW s = false) (c2 : vQ s = false) (c3 : (vR s == 0) = false) (w : World) :
    Calls Try.prog 3 #[.int .u64 s] w fun e w' => e = .returned (.bool true) ∧ Grown w w' := by
  have nf := tN_f
  have nt := tN_t
  have of := tO_f
  have ot := tO_t
  have xW := x_W h
  have xQ := x_Q h
  have xR := x_R h
  have xB := x_B h
  have xX := x_X h
  have xo := x_o h
  have b0 : 0 ≤ s := h.1
  have b1 : 0 ≤ tX s := (tX_fits h).1
  have no : tXo s = false := x_no h (.inr (.inr (.inl c3)))
  clear h
  go_enter Try.func3, Try.ntmps3
  go_wp2_with (first
    | (go_at_call 6; refine (view_any _ (by omega) _).mono ?_; rintro e w' ⟨rfl, rfl⟩)
    | (go_at_call 7; refine (take_any _ _ _).mono ?_; rintro e w' ⟨rfl, rfl⟩))
  go_ret
  exact ⟨rfl, by repeat (first | exact Grown.refl _ | apply Grown.drew | apply Grown.alloc)⟩

set_option maxHeartbeats 1000000 in
set_option maxRecDepth 100000 in
theorem walk_3 (s : Int) (h : W64 s) (c1 : vW s = false) (c2 : vQ s = false) (c3 : (vR s == 0) = true) (c4 : vB s = true) (w : World) :
    Calls Try.prog 3 #[.int .u64 s] w fun e w' => e = .returned (.bool true) ∧ Grown w w' := by
  have nf := tN_f
  have nt := tN_t
  have of := tO_f
  have ot := tO_t
  have xW := x_W h
  have xQ := x_Q h
  have xR := x_R h
  have xB := x_B h
  have xX := x_X h
  have xo := x_o h
  have b0 : 0 ≤ s := h.1
  have b1 : 0 ≤ tX s := (tX_fits h).1
  have no : tXo s = false := x_no h (.inr (.inr (.inr c4)))
  clear h
  go_enter Try.func3, Try.ntmps3
  go_wp2_with (first
    | (go_at_call 6; refine (view_any _ (by omega) _).mono ?_; rintro e w' ⟨rfl, rfl⟩)
    | (go_at_call 7; refine (take_any _ _ _).mono ?_; rintro e w' ⟨rfl, rfl⟩))
  go_ret
  exact ⟨rfl, by repeat (first | exact Grown.refl _ | apply Grown.drew | apply Grown.alloc)⟩

set_option maxHeartbeats 1000000 in
set_option maxRecDepth 100000 in
theorem walk_4 (s : Int) (h : W64 s) (c1 : vW s = false) (c2 : vQ s = false) (c3 : (vR s == 0) = true) (c4 : vB s = false) (w : World) :
    Calls Try.prog 3 #[.int .u64 s] w fun e w' => e = .returned (.bool true) ∧ Grown w w' := by
  have nf := tN_f
  have nt := tN_t
  have of := tO_f
  have ot := tO_t
  have xW := x_W h
  have xQ := x_Q h
  have xR := x_R h
  have xB := x_B h
  have xX := x_X h
  have xo := x_o h
  have b0 : 0 ≤ s := h.1
  have b1 : 0 ≤ tX s := (tX_fits h).1
  obtain ⟨yes, yes2⟩ := x_yes h c1 c2 c3 c4
  clear h
  go_enter Try.func3, Try.ntmps3
  go_wp2_with (first
    | (go_at_call 6; refine (view_any _ (by omega) _).mono ?_; rintro e w' ⟨rfl, rfl⟩)
    | (go_at_call 7; refine (take_any _ _ _).mono ?_; rintro e w' ⟨rfl, rfl⟩))
  go_ret
  exact ⟨rfl, by repeat (first | exact Grown.refl _ | apply Grown.drew | apply Grown.alloc)⟩

theorem walk (a0 : Int) (w0 : (Lit.int .u64 a0).wf = true) (w : World) :
    Calls Try.prog 3 #[.int .u64 a0] w fun e w' => e = .returned (.bool true) ∧ Grown w w' := by
  have h := fits a0 w0
  cases c1 : vW a0 with
  | true => exact walk_0 a0 h c1 w
  | false =>
    cases c2 : vQ a0 with
    | true => exact walk_1 a0 h c1 c2 w
    | false =>
      cases c3 : (vR a0 == 0) with
      | false => exact walk_2 a0 h c1 c2 c3 w
      | true =>
        cases c4 : vB a0 with
        | true => exact walk_3 a0 h c1 c2 c3 c4 w
        | false => exact walk_4 a0 h c1 c2 c3 c4 w

/-! ### THE ROW's STEP: WRITTEN OUT: LEAVE IT -/
set_option maxRecDepth 100000 in
theorem lifted (os : Os) (started : os.Started) (H : Type) (enc : TypeId × Value → H) :
    ReturnsInHanded {} Try.checked os 3 .any (Rows.fnRwTakeWriteSpecSpec.pre6 enc Try.prog Try.f3 Rows.fnRwTakeWriteSpecRow.domain false) (Rows.fnRwTakeWriteSpecSpec.post enc Try.prog Try.f3 false true false false) := by
  refine returnsInHanded_of_change (C := Try.checked) own started (by kernel_rfl) Try.func3
    (ChangeSpec.witness6 (enc := enc) (C := Try.checked) false ⟨#[], #[.int .u64 0], []⟩ 8 (by kernel_rfl) (by kernel_rfl) (by kernel_rfl) (by kernel_rfl)) ?_
  intro W base args ds gs before hval0 hW hcnd _
  have hval : ∀ (j : Nat) t v, Try.f3.params[j]? = some t → args[j]? = some v → Value.okWide Try.prog W .any base t v := hval0
  have hW' := hW
  obtain ⟨p, q, hA0, hV, rfl, hfz, hnd⟩ := hW
  have hA : DataW.TrodAll enc Try.prog W 0 (fun _ => true) true Try.f3.params.toList args.toList ds p := hA0
  rw [Try.params3] at hA hval
  obtain ⟨v0, vs0, d0, ds0, p0, q0, hargs, rfl, rfl, h0, r0⟩ := trodAll_cons hA
  obtain ⟨rfl, rfl, rfl⟩ := trodAll_nil r0
  obtain rfl : args = #[v0] := by cases args; simp_all
  obtain ⟨rfl, rfl⟩ := trodVars_none hV
  obtain ⟨a0, rfl, rfl, rfl, w0⟩ := open_int Try.underlying22 (hval 0 22 v0 rfl rfl) h0
  clear hA0 hval0
  simp only [List.append_nil] at hW'
  refine (walk a0 w0 W).mono fun e W' ⟨he, hg⟩ => ?_
  subst he
  exact ⟨_, rfl, post_of_same (pa := []) (pv := []) hW' (fun _ _ _ => (trodAll_cons_mk (shut_bool Try.underlying4 _) trodAll_mk0)) (fun sp _ => (trodAll_cons_mk (shut_int Try.underlying22 w0) trodAll_mk0)) (fun _ _ => rfl) rfl
    (hg.frame _) hg.2.1 (ok_one (by kernel_rfl) rfl (okWide_bool_mk Try.underlying4 _))⟩

theorem over : Rows.fnRwTakeWriteSpecRow.holds Try.pinned (OpenSpec.ofChange Rows.fnRwTakeWriteSpecSpec) :=
  OpenClaim.holds_of_wide 3 Try.f3 rfl rfl rfl rfl rfl rfl rfl ⟨rfl, rfl, rfl, rfl, rfl⟩ rfl rfl rfl rfl rfl (by kernel_rfl) Try.func3 (by kernel_rfl)
    (of_decide_eq_true (by kernel_rfl)) (by unfold Func.isWrapper; first | (rw [if_pos (by decide +kernel)]; kernel_rfl) | (rw [if_neg (by decide +kernel)]; exact ⟨rfl, rfl⟩))
    (fun os started H enc _ => lifted os started H enc)

/-- ████ THE STATEMENT ████ -/
theorem proved : Rows.FnRwTakeWriteSpecSaid :=
  over
end Go.Proofs.Qxb6001135a.fnRwTakeWriteSpec
namespace Go.Proofs.Qxb6001135a
theorem rw_take_write_proved : Rows.FnRwTakeWriteSpecSaid := fnRwTakeWriteSpec.proved
end Go.Proofs.Qxb6001135a
