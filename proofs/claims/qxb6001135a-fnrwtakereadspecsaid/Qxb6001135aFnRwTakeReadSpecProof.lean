/-
  A proof of 'Rows.FnRwTakeReadSpecSaid': the frame is the guide's (proof-skeleton.mjs); the walk is filled in.
-/
import Derived.Test.Qxb6001135aRows
import Derived.Test.Qxb6001135aWalksOf
import Derived.WalkKit
import Derived.ProofKit
import Derived.OpenShut
import Derived.ShutString
namespace Go.Proofs.Qxb6001135a.fnRwTakeReadSpec
open Go.ChangeShapes Go.WideShapes Go.ChangeAt Go.RowKit
open Go.ChangeMaps (open_string shut_string)
set_option linter.unusedVariables false      -- a walk need not use every 'w<i>' (that an integer argument fits its kind)

theorem own : ownKnob Try.prog.godebug = none := by kernel_rfl

/-! ### STEP 1: THE WALK: its ways are parted ahead -/
theorem fits (s : Int) (h : (Lit.int .u64 s).wf = true) : W64 s := by
  have := bounds_u64 h
  exact ⟨this.1, by omega⟩
theorem wrap1 (x : Int) (h0 : 0 ≤ x) (h1 : x < 2305843009213693951) : IntKind.u64.wrap (x + 1) = x + 1 := by
  rw [IntKind.wrap_u64]; omega

set_option maxHeartbeats 1000000 in
set_option maxRecDepth 100000 in
theorem walk_00 (s : Int) (h : W64 s) (c1 : vW s = true) (c3 : vB s = true) (w : World) :
    Calls Try.prog 4 #[.int .u64 s] w fun e w' => e = .returned (.bool true) ∧ Grown w w' := by
  have nt := tN_t
  have ot := tO_t
  have b0 : 0 ≤ s := h.1
  have so : tSo s = false := by rw [s_o h, c1]; rfl
  clear h
  go_enter Try.func4, Try.ntmps4
  go_wp2_with (first
    | (go_at_call 6; refine (view_any _ (by omega) _).mono ?_; rintro e w' ⟨rfl, rfl⟩)
    | (go_at_call 7; refine (take_any _ _ _).mono ?_; rintro e w' ⟨rfl, rfl⟩))
  go_ret
  exact ⟨rfl, by repeat (first | exact Grown.refl _ | apply Grown.drew | apply Grown.alloc)⟩

set_option maxHeartbeats 1000000 in
set_option maxRecDepth 100000 in
theorem walk_01 (s : Int) (h : W64 s) (c1 : vW s = true) (c3 : vB s = false) (c4 : 2305843009213693951 ≤ vR s) (w : World) :
    Calls Try.prog 4 #[.int .u64 s] w fun e w' => e = .returned (.bool true) ∧ Grown w w' := by
  have nt := tN_t
  have ot := tO_t
  have b0 : 0 ≤ s := h.1
  have so : tSo s = false := by rw [s_o h, c1]; rfl
  clear h
  go_enter Try.func4, Try.ntmps4
  go_wp2_with (first
    | (go_at_call 6; refine (view_any _ (by omega) _).mono ?_; rintro e w' ⟨rfl, rfl⟩)
    | (go_at_call 7; refine (take_any _ _ _).mono ?_; rintro e w' ⟨rfl, rfl⟩))
  go_ret
  exact ⟨rfl, by repeat (first | exact Grown.refl _ | apply Grown.drew | apply Grown.alloc)⟩

set_option maxHeartbeats 1000000 in
set_option maxRecDepth 100000 in
theorem walk_02 (s : Int) (h : W64 s) (c1 : vW s = true) (c3 : vB s = false) (c4 : vR s < 2305843009213693951) (w : World) :
    Calls Try.prog 4 #[.int .u64 s] w fun e w' => e = .returned (.bool true) ∧ Grown w w' := by
  have nt := tN_t
  have ot := tO_t
  have b0 : 0 ≤ s := h.1
  have so : tSo s = false := by rw [s_o h, c1]; rfl
  have sW := s_W h c3 c4
  have sQ := s_Q h c3 c4
  have sR := s_R h c3 c4
  have sB := s_B h c3 c4
  have b1 : 0 ≤ tS s := (s_fits h c3 c4).1
  have r0 : 0 ≤ vR s := (s_R0 h).1
  have w1 := wrap1 _ r0 c4
  have d4 : decide ((2305843009213693951 : Int) ≤ vR s) = false := decide_eq_false (by omega)
  clear c4
  clear h
  go_enter Try.func4, Try.ntmps4
  go_wp2_with (first
    | (go_at_call 6; refine (view_any _ (by omega) _).mono ?_; rintro e w' ⟨rfl, rfl⟩)
    | (go_at_call 7; refine (take_any _ _ _).mono ?_; rintro e w' ⟨rfl, rfl⟩))
  go_ret
  exact ⟨rfl, by repeat (first | exact Grown.refl _ | apply Grown.drew | apply Grown.alloc)⟩

set_option maxHeartbeats 1000000 in
set_option maxRecDepth 100000 in
theorem walk_10 (s : Int) (h : W64 s) (c1 : vW s = false) (c2 : vQ s = true) (c3 : vB s = true) (w : World) :
    Calls Try.prog 4 #[.int .u64 s] w fun e w' => e = .returned (.bool true) ∧ Grown w w' := by
  have nt := tN_t
  have ot := tO_t
  have b0 : 0 ≤ s := h.1
  have so : tSo s = false := by rw [s_o h, c1, c2]; rfl
  clear h
  go_enter Try.func4, Try.ntmps4
  go_wp2_with (first
    | (go_at_call 6; refine (view_any _ (by omega) _).mono ?_; rintro e w' ⟨rfl, rfl⟩)
    | (go_at_call 7; refine (take_any _ _ _).mono ?_; rintro e w' ⟨rfl, rfl⟩))
  go_ret
  exact ⟨rfl, by repeat (first | exact Grown.refl _ | apply Grown.drew | apply Grown.alloc)⟩

set_option maxHeartbeats 1000000 in
set_option maxRecDepth 100000 in
theorem walk_11 (s : Int) (h : W64 s) (c1 : vW s = false) (c2 : vQ s = true) (c3 : vB s = false) (c4 : 2305843009213693951 ≤ vR s) (w : World) :
    Calls Try.prog 4 #[.int .u64 s] w fun e w' => e = .returned (.bool true) ∧ Grown w w' := by
  have nt := tN_t
  have ot := tO_t
  have b0 : 0 ≤ s := h.1
  have so : tSo s = false := by rw [s_o h, c1, c2]; rfl
  clear h
  go_enter Try.func4, Try.ntmps4
  go_wp2_with (first
    | (go_at_call 6; refine (view_any _ (by omega) _).mono ?_; rintro e w' ⟨rfl, rfl⟩)
    | (go_at_call 7; refine (take_any _ _ _).mono ?_; rintro e w' ⟨rfl, rfl⟩))
  go_ret
  exact ⟨rfl, by repeat (first | exact Grown.refl _ | apply Grown.drew | apply Grown.alloc)⟩

set_option maxHeartbeats 1000000 in
set_option maxRecDepth 100000 in
theorem walk_12 (s : Int) (h : W64 s) (c1 : vW s = false) (c2 : vQ s = true) (c3 : vB s = false) (c4 : vR s < 2305843009213693951) (w : World) :
    Calls Try.prog 4 #[.int .u64 s] w fun e w' => e = .returned (.bool true) ∧ Grown w w' := by
  have nt := tN_t
  have ot := tO_t
  have b0 : 0 ≤ s := h.1
  have so : tSo s = false := by rw [s_o h, c1, c2]; rfl
  have sW := s_W h c3 c4
  have sQ := s_Q h c3 c4
  have sR := s_R h c3 c4
  have sB := s_B h c3 c4
  have b1 : 0 ≤ tS s := (s_fits h c3 c4).1
  have r0 : 0 ≤ vR s := (s_R0 h).1
  have w1 := wrap1 _ r0 c4
  have d4 : decide ((2305843009213693951 : Int) ≤ vR s) = false := decide_eq_false (by omega)
  clear c4
  clear h
  go_enter Try.func4, Try.ntmps4
  go_wp2_with (first
    | (go_at_call 6; refine (view_any _ (by omega) _).mono ?_; rintro e w' ⟨rfl, rfl⟩)
    | (go_at_call 7; refine (take_any _ _ _).mono ?_; rintro e w' ⟨rfl, rfl⟩))
  go_ret
  exact ⟨rfl, by repeat (first | exact Grown.refl _ | apply Grown.drew | apply Grown.alloc)⟩

set_option maxHeartbeats 1000000 in
set_option maxRecDepth 100000 in
theorem walk_20 (s : Int) (h : W64 s) (c1 : vW s = false) (c2 : vQ s = false) (c3 : vB s = true) (w : World) :
    Calls Try.prog 4 #[.int .u64 s] w fun e w' => e = .returned (.bool true) ∧ Grown w w' := by
  have nt := tN_t
  have ot := tO_t
  have b0 : 0 ≤ s := h.1
  have so : tSo s = true := by rw [s_o h, c1, c2]; rfl
  clear h
  go_enter Try.func4, Try.ntmps4
  go_wp2_with (first
    | (go_at_call 6; refine (view_any _ (by omega) _).mono ?_; rintro e w' ⟨rfl, rfl⟩)
    | (go_at_call 7; refine (take_any _ _ _).mono ?_; rintro e w' ⟨rfl, rfl⟩))
  go_ret
  exact ⟨rfl, by repeat (first | exact Grown.refl _ | apply Grown.drew | apply Grown.alloc)⟩

set_option maxHeartbeats 1000000 in
set_option maxRecDepth 100000 in
theorem walk_21 (s : Int) (h : W64 s) (c1 : vW s = false) (c2 : vQ s = false) (c3 : vB s = false) (c4 : 2305843009213693951 ≤ vR s) (w : World) :
    Calls Try.prog 4 #[.int .u64 s] w fun e w' => e = .returned (.bool true) ∧ Grown w w' := by
  have nt := tN_t
  have ot := tO_t
  have b0 : 0 ≤ s := h.1
  have so : tSo s = true := by rw [s_o h, c1, c2]; rfl
  clear h
  go_enter Try.func4, Try.ntmps4
  go_wp2_with (first
    | (go_at_call 6; refine (view_any _ (by omega) _).mono ?_; rintro e w' ⟨rfl, rfl⟩)
    | (go_at_call 7; refine (take_any _ _ _).mono ?_; rintro e w' ⟨rfl, rfl⟩))
  go_ret
  exact ⟨rfl, by repeat (first | exact Grown.refl _ | apply Grown.drew | apply Grown.alloc)⟩

set_option maxHeartbeats 1000000 in
set_option maxRecDepth 100000 in
theorem walk_22 (s : Int) (h : W64 s) (c1 : vW s = false) (c2 : vQ s = false) (c3 : vB s = false) (c4 : vR s < 2305843009213693951) (w : World) :
    Calls Try.prog 4 #[.int .u64 s] w fun e w' => e = .returned (.bool true) ∧ Grown w w' := by
  have nt := tN_t
  have ot := tO_t
  have b0 : 0 ≤ s := h.1
  have so : tSo s = true := by rw [s_o h, c1, c2]; rfl
  have sW := s_W h c3 c4
  have sQ := s_Q h c3 c4
  have sR := s_R h c3 c4
  have sB := s_B h c3 c4
  have b1 : 0 ≤ tS s := (s_fits h c3 c4).1
  have r0 : 0 ≤ vR s := (s_R0 h).1
  have w1 := wrap1 _ r0 c4
  have d4 : decide ((2305843009213693951 : Int) ≤ vR s) = false := decide_eq_false (by omega)
  clear c4
  clear h
  go_enter Try.func4, Try.ntmps4
  go_wp2_with (first
    | (go_at_call 6; refine (view_any _ (by omega) _).mono ?_; rintro e w' ⟨rfl, rfl⟩)
    | (go_at_call 7; refine (take_any _ _ _).mono ?_; rintro e w' ⟨rfl, rfl⟩))
  go_ret
  exact ⟨rfl, by repeat (first | exact Grown.refl _ | apply Grown.drew | apply Grown.alloc)⟩

theorem walk (a0 : Int) (w0 : (Lit.int .u64 a0).wf = true) (w : World) :
    Calls Try.prog 4 #[.int .u64 a0] w fun e w' => e = .returned (.bool true) ∧ Grown w w' := by
  have h := fits a0 w0
  cases c1 : vW a0 with
  | true =>
    cases c3 : vB a0 with
    | true => exact walk_00 a0 h c1 c3 w
    | false =>
      by_cases c4 : 2305843009213693951 ≤ vR a0
      · exact walk_01 a0 h c1 c3 c4 w
      · exact walk_02 a0 h c1 c3 (by omega) w
  | false =>
    cases c2 : vQ a0 with
    | true =>
      cases c3 : vB a0 with
      | true => exact walk_10 a0 h c1 c2 c3 w
      | false =>
        by_cases c4 : 2305843009213693951 ≤ vR a0
        · exact walk_11 a0 h c1 c2 c3 c4 w
        · exact walk_12 a0 h c1 c2 c3 (by omega) w
    | false =>
      cases c3 : vB a0 with
      | true => exact walk_20 a0 h c1 c2 c3 w
      | false =>
        by_cases c4 : 2305843009213693951 ≤ vR a0
        · exact walk_21 a0 h c1 c2 c3 c4 w
        · exact walk_22 a0 h c1 c2 c3 (by omega) w

/-! ### THE ROW's STEP: WRITTEN OUT: LEAVE IT -/
set_option maxRecDepth 100000 in
theorem lifted (os : Os) (started : os.Started) (H : Type) (enc : TypeId × Value → H) :
    ReturnsInHanded {} Try.checked os 4 .any (Rows.fnRwTakeReadSpecSpec.pre6 enc Try.prog Try.f4 Rows.fnRwTakeReadSpecRow.domain false) (Rows.fnRwTakeReadSpecSpec.post enc Try.prog Try.f4 false true false false) := by
  refine returnsInHanded_of_change (C := Try.checked) own started (by kernel_rfl) Try.func4
    (ChangeSpec.witness6 (enc := enc) (C := Try.checked) false ⟨#[], #[.int .u64 0], []⟩ 8 (by kernel_rfl) (by kernel_rfl) (by kernel_rfl) (by kernel_rfl)) ?_
  intro W base args ds gs before hval0 hW hcnd _
  have hval : ∀ (j : Nat) t v, Try.f4.params[j]? = some t → args[j]? = some v → Value.okWide Try.prog W .any base t v := hval0
  have hW' := hW
  obtain ⟨p, q, hA0, hV, rfl, hfz, hnd⟩ := hW
  have hA : DataW.TrodAll enc Try.prog W 0 (fun _ => true) true Try.f4.params.toList args.toList ds p := hA0
  rw [Try.params4] at hA hval
  obtain ⟨v0, vs0, d0, ds0, p0, q0, hargs, rfl, rfl, h0, r0⟩ := trodAll_cons hA
  obtain ⟨rfl, rfl, rfl⟩ := trodAll_nil r0
  obtain rfl : args = #[v0] := by cases args; simp_all
  obtain ⟨rfl, rfl⟩ := trodVars_none hV
  obtain ⟨a0, rfl, rfl, rfl, w0⟩ := open_int Try.underlying22 (hval 0 22 v0 rfl rfl) h0
  clear hA0 hval0
  simp only [List.append_nil] at hW'
  refine (walk a0 w0 W).mono fun e W' ⟨he, hg⟩ => ?_
  subst he
  exact ⟨_, rfl, post_of_same (pa := []) (pv := []) hW' (fun _ _ _ => (trodAll_cons_mk (shut_bool Try.underlying4 _) trodAll_mk0)) (fun sp _ => (trodAll_cons_mk (shut_int Try.underlying22 w0) trodAll_mk0)) (fun _ _ => rfl) rfl
    (hg.frame _) hg.2.1 (ok_one (by kernel_rfl) rfl (okWide_bool_mk Try.underlying4 _))⟩

theorem over : Rows.fnRwTakeReadSpecRow.holds Try.pinned (OpenSpec.ofChange Rows.fnRwTakeReadSpecSpec) :=
  OpenClaim.holds_of_wide 4 Try.f4 rfl rfl rfl rfl rfl rfl rfl ⟨rfl, rfl, rfl, rfl, rfl⟩ rfl rfl rfl rfl rfl (by kernel_rfl) Try.func4 (by kernel_rfl)
    (of_decide_eq_true (by kernel_rfl)) (by unfold Func.isWrapper; first | (rw [if_pos (by decide +kernel)]; kernel_rfl) | (rw [if_neg (by decide +kernel)]; exact ⟨rfl, rfl⟩))
    (fun os started H enc _ => lifted os started H enc)

/-- ████ THE STATEMENT ████ -/
theorem proved : Rows.FnRwTakeReadSpecSaid :=
  over
end Go.Proofs.Qxb6001135a.fnRwTakeReadSpec
namespace Go.Proofs.Qxb6001135a
theorem rw_take_read_proved : Rows.FnRwTakeReadSpecSaid := fnRwTakeReadSpec.proved
end Go.Proofs.Qxb6001135a
