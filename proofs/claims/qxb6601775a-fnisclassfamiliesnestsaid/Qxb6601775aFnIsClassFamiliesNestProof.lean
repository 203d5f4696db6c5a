/-
  A proof of 'Rows.FnIsClassFamiliesNestSaid': the frame is the guide's (proof-skeleton.mjs); the walk is filled in, over the sixteen ranges of bytes of Qxb6601775aPlain.
-/
import Derived.Test.Qxb6601775aRows
import Derived.Test.Qxb6601775aIsClass
import Derived.WalkKit
import Derived.ProofKit
import Derived.OpenShut
import Derived.ShutString
namespace Go.Proofs.Qxb6601775a.fnIsClassFamiliesNest
open Go.ChangeShapes Go.WideShapes Go.ChangeAt Go.RowKit
open Go.ChangeMaps (open_string shut_string)
set_option linter.unusedVariables false      -- a walk need not use every 'w<i>' (that an integer argument fits its kind)

theorem own : ownKnob Try.prog.godebug = none := by kernel_rfl

set_option maxRecDepth 100000 in
set_option maxHeartbeats 1000000 in
theorem walk_0 (c : Int) (h1 : 0 ≤ c) (h2 : c ≤ 8) (w : World) :
    Calls Try.prog 4 #[.int .u8 c] w fun e w' => e = .returned (.bool true) ∧ w' = w := by
  have v_alnum : cls [97, 108, 110, 117, 109] c = (false, true) := by rw [cls_0 _ _ h1 h2]; rfl
  have v_alpha : cls [97, 108, 112, 104, 97] c = (false, true) := by rw [cls_0 _ _ h1 h2]; rfl
  have v_blank : cls [98, 108, 97, 110, 107] c = (false, true) := by rw [cls_0 _ _ h1 h2]; rfl
  have v_cntrl : cls [99, 110, 116, 114, 108] c = (true, true) := by rw [cls_0 _ _ h1 h2]; rfl
  have v_digit : cls [100, 105, 103, 105, 116] c = (false, true) := by rw [cls_0 _ _ h1 h2]; rfl
  have v_graph : cls [103, 114, 97, 112, 104] c = (false, true) := by rw [cls_0 _ _ h1 h2]; rfl
  have v_lower : cls [108, 111, 119, 101, 114] c = (false, true) := by rw [cls_0 _ _ h1 h2]; rfl
  have v_print : cls [112, 114, 105, 110, 116] c = (false, true) := by rw [cls_0 _ _ h1 h2]; rfl
  have v_punct : cls [112, 117, 110, 99, 116] c = (false, true) := by rw [cls_0 _ _ h1 h2]; rfl
  have v_space : cls [115, 112, 97, 99, 101] c = (false, true) := by rw [cls_0 _ _ h1 h2]; rfl
  have v_upper : cls [117, 112, 112, 101, 114] c = (false, true) := by rw [cls_0 _ _ h1 h2]; rfl
  have v_xdigit : cls [120, 100, 105, 103, 105, 116] c = (false, true) := by rw [cls_0 _ _ h1 h2]; rfl
  have v_odd : cls [65, 76, 80, 72, 65] c = (false, false) := by rw [cls_0 _ _ h1 h2]; rfl
  have e32 : (c == 32) = false := by simp; omega
  go_enter Try.func4, Try.ntmps4
  go_wp2_with (go_at_call 11; refine (zz_any _ _ (by omega) (by omega) _).mono ?_; rintro e w' ⟨rfl, rfl⟩)
  go_ret
  exact ⟨rfl, rfl⟩

set_option maxRecDepth 100000 in
set_option maxHeartbeats 1000000 in
theorem walk_1 (c : Int) (h1 : 9 ≤ c) (h2 : c ≤ 9) (w : World) :
    Calls Try.prog 4 #[.int .u8 c] w fun e w' => e = .returned (.bool true) ∧ w' = w := by
  have v_alnum : cls [97, 108, 110, 117, 109] c = (false, true) := by rw [cls_1 _ _ h1 h2]; rfl
  have v_alpha : cls [97, 108, 112, 104, 97] c = (false, true) := by rw [cls_1 _ _ h1 h2]; rfl
  have v_blank : cls [98, 108, 97, 110, 107] c = (true, true) := by rw [cls_1 _ _ h1 h2]; rfl
  have v_cntrl : cls [99, 110, 116, 114, 108] c = (true, true) := by rw [cls_1 _ _ h1 h2]; rfl
  have v_digit : cls [100, 105, 103, 105, 116] c = (false, true) := by rw [cls_1 _ _ h1 h2]; rfl
  have v_graph : cls [103, 114, 97, 112, 104] c = (false, true) := by rw [cls_1 _ _ h1 h2]; rfl
  have v_lower : cls [108, 111, 119, 101, 114] c = (false, true) := by rw [cls_1 _ _ h1 h2]; rfl
  have v_print : cls [112, 114, 105, 110, 116] c = (false, true) := by rw [cls_1 _ _ h1 h2]; rfl
  have v_punct : cls [112, 117, 110, 99, 116] c = (false, true) := by rw [cls_1 _ _ h1 h2]; rfl
  have v_space : cls [115, 112, 97, 99, 101] c = (true, true) := by rw [cls_1 _ _ h1 h2]; rfl
  have v_upper : cls [117, 112, 112, 101, 114] c = (false, true) := by rw [cls_1 _ _ h1 h2]; rfl
  have v_xdigit : cls [120, 100, 105, 103, 105, 116] c = (false, true) := by rw [cls_1 _ _ h1 h2]; rfl
  have v_odd : cls [65, 76, 80, 72, 65] c = (false, false) := by rw [cls_1 _ _ h1 h2]; rfl
  have e32 : (c == 32) = false := by simp; omega
  go_enter Try.func4, Try.ntmps4
  go_wp2_with (go_at_call 11; refine (zz_any _ _ (by omega) (by omega) _).mono ?_; rintro e w' ⟨rfl, rfl⟩)
  go_ret
  exact ⟨rfl, rfl⟩

set_option maxRecDepth 100000 in
set_option maxHeartbeats 1000000 in
theorem walk_2 (c : Int) (h1 : 10 ≤ c) (h2 : c ≤ 13) (w : World) :
    Calls Try.prog 4 #[.int .u8 c] w fun e w' => e = .returned (.bool true) ∧ w' = w := by
  have v_alnum : cls [97, 108, 110, 117, 109] c = (false, true) := by rw [cls_2 _ _ h1 h2]; rfl
  have v_alpha : cls [97, 108, 112, 104, 97] c = (false, true) := by rw [cls_2 _ _ h1 h2]; rfl
  have v_blank : cls [98, 108, 97, 110, 107] c = (false, true) := by rw [cls_2 _ _ h1 h2]; rfl
  have v_cntrl : cls [99, 110, 116, 114, 108] c = (true, true) := by rw [cls_2 _ _ h1 h2]; rfl
  have v_digit : cls [100, 105, 103, 105, 116] c = (false, true) := by rw [cls_2 _ _ h1 h2]; rfl
  have v_graph : cls [103, 114, 97, 112, 104] c = (false, true) := by rw [cls_2 _ _ h1 h2]; rfl
  have v_lower : cls [108, 111, 119, 101, 114] c = (false, true) := by rw [cls_2 _ _ h1 h2]; rfl
  have v_print : cls [112, 114, 105, 110, 116] c = (false, true) := by rw [cls_2 _ _ h1 h2]; rfl
  have v_punct : cls [112, 117, 110, 99, 116] c = (false, true) := by rw [cls_2 _ _ h1 h2]; rfl
  have v_space : cls [115, 112, 97, 99, 101] c = (true, true) := by rw [cls_2 _ _ h1 h2]; rfl
  have v_upper : cls [117, 112, 112, 101, 114] c = (false, true) := by rw [cls_2 _ _ h1 h2]; rfl
  have v_xdigit : cls [120, 100, 105, 103, 105, 116] c = (false, true) := by rw [cls_2 _ _ h1 h2]; rfl
  have v_odd : cls [65, 76, 80, 72, 65] c = (false, false) := by rw [cls_2 _ _ h1 h2]; rfl
  have e32 : (c == 32) = false := by simp; omega
  go_enter Try.func4, Try.ntmps4
  go_wp2_with (go_at_call 11; refine (zz_any _ _ (by omega) (by omega) _).mono ?_; rintro e w' ⟨rfl, rfl⟩)
  go_ret
  exact ⟨rfl, rfl⟩

set_option maxRecDepth 100000 in
set_option maxHeartbeats 1000000 in
theorem walk_3 (c : Int) (h1 : 14 ≤ c) (h2 : c ≤ 31) (w : World) :
    Calls Try.prog 4 #[.int .u8 c] w fun e w' => e = .returned (.bool true) ∧ w' = w := by
  have v_alnum : cls [97, 108, 110, 117, 109] c = (false, true) := by rw [cls_3 _ _ h1 h2]; rfl
  have v_alpha : cls [97, 108, 112, 104, 97] c = (false, true) := by rw [cls_3 _ _ h1 h2]; rfl
  have v_blank : cls [98, 108, 97, 110, 107] c = (false, true) := by rw [cls_3 _ _ h1 h2]; rfl
  have v_cntrl : cls [99, 110, 116, 114, 108] c = (true, true) := by rw [cls_3 _ _ h1 h2]; rfl
  have v_digit : cls [100, 105, 103, 105, 116] c = (false, true) := by rw [cls_3 _ _ h1 h2]; rfl
  have v_graph : cls [103, 114, 97, 112, 104] c = (false, true) := by rw [cls_3 _ _ h1 h2]; rfl
  have v_lower : cls [108, 111, 119, 101, 114] c = (false, true) := by rw [cls_3 _ _ h1 h2]; rfl
  have v_print : cls [112, 114, 105, 110, 116] c = (false, true) := by rw [cls_3 _ _ h1 h2]; rfl
  have v_punct : cls [112, 117, 110, 99, 116] c = (false, true) := by rw [cls_3 _ _ h1 h2]; rfl
  have v_space : cls [115, 112, 97, 99, 101] c = (false, true) := by rw [cls_3 _ _ h1 h2]; rfl
  have v_upper : cls [117, 112, 112, 101, 114] c = (false, true) := by rw [cls_3 _ _ h1 h2]; rfl
  have v_xdigit : cls [120, 100, 105, 103, 105, 116] c = (false, true) := by rw [cls_3 _ _ h1 h2]; rfl
  have v_odd : cls [65, 76, 80, 72, 65] c = (false, false) := by rw [cls_3 _ _ h1 h2]; rfl
  have e32 : (c == 32) = false := by simp; omega
  go_enter Try.func4, Try.ntmps4
  go_wp2_with (go_at_call 11; refine (zz_any _ _ (by omega) (by omega) _).mono ?_; rintro e w' ⟨rfl, rfl⟩)
  go_ret
  exact ⟨rfl, rfl⟩

set_option maxRecDepth 100000 in
set_option maxHeartbeats 1000000 in
theorem walk_4 (c : Int) (h1 : 32 ≤ c) (h2 : c ≤ 32) (w : World) :
    Calls Try.prog 4 #[.int .u8 c] w fun e w' => e = .returned (.bool true) ∧ w' = w := by
  have v_alnum : cls [97, 108, 110, 117, 109] c = (false, true) := by rw [cls_4 _ _ h1 h2]; rfl
  have v_alpha : cls [97, 108, 112, 104, 97] c = (false, true) := by rw [cls_4 _ _ h1 h2]; rfl
  have v_blank : cls [98, 108, 97, 110, 107] c = (true, true) := by rw [cls_4 _ _ h1 h2]; rfl
  have v_cntrl : cls [99, 110, 116, 114, 108] c = (false, true) := by rw [cls_4 _ _ h1 h2]; rfl
  have v_digit : cls [100, 105, 103, 105, 116] c = (false, true) := by rw [cls_4 _ _ h1 h2]; rfl
  have v_graph : cls [103, 114, 97, 112, 104] c = (false, true) := by rw [cls_4 _ _ h1 h2]; rfl
  have v_lower : cls [108, 111, 119, 101, 114] c = (false, true) := by rw [cls_4 _ _ h1 h2]; rfl
  have v_print : cls [112, 114, 105, 110, 116] c = (true, true) := by rw [cls_4 _ _ h1 h2]; rfl
  have v_punct : cls [112, 117, 110, 99, 116] c = (false, true) := by rw [cls_4 _ _ h1 h2]; rfl
  have v_space : cls [115, 112, 97, 99, 101] c = (true, true) := by rw [cls_4 _ _ h1 h2]; rfl
  have v_upper : cls [117, 112, 112, 101, 114] c = (false, true) := by rw [cls_4 _ _ h1 h2]; rfl
  have v_xdigit : cls [120, 100, 105, 103, 105, 116] c = (false, true) := by rw [cls_4 _ _ h1 h2]; rfl
  have v_odd : cls [65, 76, 80, 72, 65] c = (false, false) := by rw [cls_4 _ _ h1 h2]; rfl
  have e32 : (c == 32) = true := by simp; omega
  go_enter Try.func4, Try.ntmps4
  go_wp2_with (go_at_call 11; refine (zz_any _ _ (by omega) (by omega) _).mono ?_; rintro e w' ⟨rfl, rfl⟩)
  go_ret
  exact ⟨rfl, rfl⟩

set_option maxRecDepth 100000 in
set_option maxHeartbeats 1000000 in
theorem walk_5 (c : Int) (h1 : 33 ≤ c) (h2 : c ≤ 47) (w : World) :
    Calls Try.prog 4 #[.int .u8 c] w fun e w' => e = .returned (.bool true) ∧ w' = w := by
  have v_alnum : cls [97, 108, 110, 117, 109] c = (false, true) := by rw [cls_5 _ _ h1 h2]; rfl
  have v_alpha : cls [97, 108, 112, 104, 97] c = (false, true) := by rw [cls_5 _ _ h1 h2]; rfl
  have v_blank : cls [98, 108, 97, 110, 107] c = (false, true) := by rw [cls_5 _ _ h1 h2]; rfl
  have v_cntrl : cls [99, 110, 116, 114, 108] c = (false, true) := by rw [cls_5 _ _ h1 h2]; rfl
  have v_digit : cls [100, 105, 103, 105, 116] c = (false, true) := by rw [cls_5 _ _ h1 h2]; rfl
  have v_graph : cls [103, 114, 97, 112, 104] c = (true, true) := by rw [cls_5 _ _ h1 h2]; rfl
  have v_lower : cls [108, 111, 119, 101, 114] c = (false, true) := by rw [cls_5 _ _ h1 h2]; rfl
  have v_print : cls [112, 114, 105, 110, 116] c = (true, true) := by rw [cls_5 _ _ h1 h2]; rfl
  have v_punct : cls [112, 117, 110, 99, 116] c = (true, true) := by rw [cls_5 _ _ h1 h2]; rfl
  have v_space : cls [115, 112, 97, 99, 101] c = (false, true) := by rw [cls_5 _ _ h1 h2]; rfl
  have v_upper : cls [117, 112, 112, 101, 114] c = (false, true) := by rw [cls_5 _ _ h1 h2]; rfl
  have v_xdigit : cls [120, 100, 105, 103, 105, 116] c = (false, true) := by rw [cls_5 _ _ h1 h2]; rfl
  have v_odd : cls [65, 76, 80, 72, 65] c = (false, false) := by rw [cls_5 _ _ h1 h2]; rfl
  have e32 : (c == 32) = false := by simp; omega
  go_enter Try.func4, Try.ntmps4
  go_wp2_with (go_at_call 11; refine (zz_any _ _ (by omega) (by omega) _).mono ?_; rintro e w' ⟨rfl, rfl⟩)
  go_ret
  exact ⟨rfl, rfl⟩

set_option maxRecDepth 100000 in
set_option maxHeartbeats 1000000 in
theorem walk_6 (c : Int) (h1 : 48 ≤ c) (h2 : c ≤ 57) (w : World) :
    Calls Try.prog 4 #[.int .u8 c] w fun e w' => e = .returned (.bool true) ∧ w' = w := by
  have v_alnum : cls [97, 108, 110, 117, 109] c = (true, true) := by rw [cls_6 _ _ h1 h2]; rfl
  have v_alpha : cls [97, 108, 112, 104, 97] c = (false, true) := by rw [cls_6 _ _ h1 h2]; rfl
  have v_blank : cls [98, 108, 97, 110, 107] c = (false, true) := by rw [cls_6 _ _ h1 h2]; rfl
  have v_cntrl : cls [99, 110, 116, 114, 108] c = (false, true) := by rw [cls_6 _ _ h1 h2]; rfl
  have v_digit : cls [100, 105, 103, 105, 116] c = (true, true) := by rw [cls_6 _ _ h1 h2]; rfl
  have v_graph : cls [103, 114, 97, 112, 104] c = (true, true) := by rw [cls_6 _ _ h1 h2]; rfl
  have v_lower : cls [108, 111, 119, 101, 114] c = (false, true) := by rw [cls_6 _ _ h1 h2]; rfl
  have v_print : cls [112, 114, 105, 110, 116] c = (true, true) := by rw [cls_6 _ _ h1 h2]; rfl
  have v_punct : cls [112, 117, 110, 99, 116] c = (false, true) := by rw [cls_6 _ _ h1 h2]; rfl
  have v_space : cls [115, 112, 97, 99, 101] c = (false, true) := by rw [cls_6 _ _ h1 h2]; rfl
  have v_upper : cls [117, 112, 112, 101, 114] c = (false, true) := by rw [cls_6 _ _ h1 h2]; rfl
  have v_xdigit : cls [120, 100, 105, 103, 105, 116] c = (true, true) := by rw [cls_6 _ _ h1 h2]; rfl
  have v_odd : cls [65, 76, 80, 72, 65] c = (false, false) := by rw [cls_6 _ _ h1 h2]; rfl
  have e32 : (c == 32) = false := by simp; omega
  go_enter Try.func4, Try.ntmps4
  go_wp2_with (go_at_call 11; refine (zz_any _ _ (by omega) (by omega) _).mono ?_; rintro e w' ⟨rfl, rfl⟩)
  go_ret
  exact ⟨rfl, rfl⟩

set_option maxRecDepth 100000 in
set_option maxHeartbeats 1000000 in
theorem walk_7 (c : Int) (h1 : 58 ≤ c) (h2 : c ≤ 64) (w : World) :
    Calls Try.prog 4 #[.int .u8 c] w fun e w' => e = .returned (.bool true) ∧ w' = w := by
  have v_alnum : cls [97, 108, 110, 117, 109] c = (false, true) := by rw [cls_7 _ _ h1 h2]; rfl
  have v_alpha : cls [97, 108, 112, 104, 97] c = (false, true) := by rw [cls_7 _ _ h1 h2]; rfl
  have v_blank : cls [98, 108, 97, 110, 107] c = (false, true) := by rw [cls_7 _ _ h1 h2]; rfl
  have v_cntrl : cls [99, 110, 116, 114, 108] c = (false, true) := by rw [cls_7 _ _ h1 h2]; rfl
  have v_digit : cls [100, 105, 103, 105, 116] c = (false, true) := by rw [cls_7 _ _ h1 h2]; rfl
  have v_graph : cls [103, 114, 97, 112, 104] c = (true, true) := by rw [cls_7 _ _ h1 h2]; rfl
  have v_lower : cls [108, 111, 119, 101, 114] c = (false, true) := by rw [cls_7 _ _ h1 h2]; rfl
  have v_print : cls [112, 114, 105, 110, 116] c = (true, true) := by rw [cls_7 _ _ h1 h2]; rfl
  have v_punct : cls [112, 117, 110, 99, 116] c = (true, true) := by rw [cls_7 _ _ h1 h2]; rfl
  have v_space : cls [115, 112, 97, 99, 101] c = (false, true) := by rw [cls_7 _ _ h1 h2]; rfl
  have v_upper : cls [117, 112, 112, 101, 114] c = (false, true) := by rw [cls_7 _ _ h1 h2]; rfl
  have v_xdigit : cls [120, 100, 105, 103, 105, 116] c = (false, true) := by rw [cls_7 _ _ h1 h2]; rfl
  have v_odd : cls [65, 76, 80, 72, 65] c = (false, false) := by rw [cls_7 _ _ h1 h2]; rfl
  have e32 : (c == 32) = false := by simp; omega
  go_enter Try.func4, Try.ntmps4
  go_wp2_with (go_at_call 11; refine (zz_any _ _ (by omega) (by omega) _).mono ?_; rintro e w' ⟨rfl, rfl⟩)
  go_ret
  exact ⟨rfl, rfl⟩

set_option maxRecDepth 100000 in
set_option maxHeartbeats 1000000 in
theorem walk_8 (c : Int) (h1 : 65 ≤ c) (h2 : c ≤ 70) (w : World) :
    Calls Try.prog 4 #[.int .u8 c] w fun e w' => e = .returned (.bool true) ∧ w' = w := by
  have v_alnum : cls [97, 108, 110, 117, 109] c = (true, true) := by rw [cls_8 _ _ h1 h2]; rfl
  have v_alpha : cls [97, 108, 112, 104, 97] c = (true, true) := by rw [cls_8 _ _ h1 h2]; rfl
  have v_blank : cls [98, 108, 97, 110, 107] c = (false, true) := by rw [cls_8 _ _ h1 h2]; rfl
  have v_cntrl : cls [99, 110, 116, 114, 108] c = (false, true) := by rw [cls_8 _ _ h1 h2]; rfl
  have v_digit : cls [100, 105, 103, 105, 116] c = (false, true) := by rw [cls_8 _ _ h1 h2]; rfl
  have v_graph : cls [103, 114, 97, 112, 104] c = (true, true) := by rw [cls_8 _ _ h1 h2]; rfl
  have v_lower : cls [108, 111, 119, 101, 114] c = (false, true) := by rw [cls_8 _ _ h1 h2]; rfl
  have v_print : cls [112, 114, 105, 110, 116] c = (true, true) := by rw [cls_8 _ _ h1 h2]; rfl
  have v_punct : cls [112, 117, 110, 99, 116] c = (false, true) := by rw [cls_8 _ _ h1 h2]; rfl
  have v_space : cls [115, 112, 97, 99, 101] c = (false, true) := by rw [cls_8 _ _ h1 h2]; rfl
  have v_upper : cls [117, 112, 112, 101, 114] c = (true, true) := by rw [cls_8 _ _ h1 h2]; rfl
  have v_xdigit : cls [120, 100, 105, 103, 105, 116] c = (true, true) := by rw [cls_8 _ _ h1 h2]; rfl
  have v_odd : cls [65, 76, 80, 72, 65] c = (false, false) := by rw [cls_8 _ _ h1 h2]; rfl
  have e32 : (c == 32) = false := by simp; omega
  go_enter Try.func4, Try.ntmps4
  go_wp2_with (go_at_call 11; refine (zz_any _ _ (by omega) (by omega) _).mono ?_; rintro e w' ⟨rfl, rfl⟩)
  go_ret
  exact ⟨rfl, rfl⟩

set_option maxRecDepth 100000 in
set_option maxHeartbeats 1000000 in
theorem walk_9 (c : Int) (h1 : 71 ≤ c) (h2 : c ≤ 90) (w : World) :
    Calls Try.prog 4 #[.int .u8 c] w fun e w' => e = .returned (.bool true) ∧ w' = w := by
  have v_alnum : cls [97, 108, 110, 117, 109] c = (true, true) := by rw [cls_9 _ _ h1 h2]; rfl
  have v_alpha : cls [97, 108, 112, 104, 97] c = (true, true) := by rw [cls_9 _ _ h1 h2]; rfl
  have v_blank : cls [98, 108, 97, 110, 107] c = (false, true) := by rw [cls_9 _ _ h1 h2]; rfl
  have v_cntrl : cls [99, 110, 116, 114, 108] c = (false, true) := by rw [cls_9 _ _ h1 h2]; rfl
  have v_digit : cls [100, 105, 103, 105, 116] c = (false, true) := by rw [cls_9 _ _ h1 h2]; rfl
  have v_graph : cls [103, 114, 97, 112, 104] c = (true, true) := by rw [cls_9 _ _ h1 h2]; rfl
  have v_lower : cls [108, 111, 119, 101, 114] c = (false, true) := by rw [cls_9 _ _ h1 h2]; rfl
  have v_print : cls [112, 114, 105, 110, 116] c = (true, true) := by rw [cls_9 _ _ h1 h2]; rfl
  have v_punct : cls [112, 117, 110, 99, 116] c = (false, true) := by rw [cls_9 _ _ h1 h2]; rfl
  have v_space : cls [115, 112, 97, 99, 101] c = (false, true) := by rw [cls_9 _ _ h1 h2]; rfl
  have v_upper : cls [117, 112, 112, 101, 114] c = (true, true) := by rw [cls_9 _ _ h1 h2]; rfl
  have v_xdigit : cls [120, 100, 105, 103, 105, 116] c = (false, true) := by rw [cls_9 _ _ h1 h2]; rfl
  have v_odd : cls [65, 76, 80, 72, 65] c = (false, false) := by rw [cls_9 _ _ h1 h2]; rfl
  have e32 : (c == 32) = false := by simp; omega
  go_enter Try.func4, Try.ntmps4
  go_wp2_with (go_at_call 11; refine (zz_any _ _ (by omega) (by omega) _).mono ?_; rintro e w' ⟨rfl, rfl⟩)
  go_ret
  exact ⟨rfl, rfl⟩

set_option maxRecDepth 100000 in
set_option maxHeartbeats 1000000 in
theorem walk_10 (c : Int) (h1 : 91 ≤ c) (h2 : c ≤ 96) (w : World) :
    Calls Try.prog 4 #[.int .u8 c] w fun e w' => e = .returned (.bool true) ∧ w' = w := by
  have v_alnum : cls [97, 108, 110, 117, 109] c = (false, true) := by rw [cls_10 _ _ h1 h2]; rfl
  have v_alpha : cls [97, 108, 112, 104, 97] c = (false, true) := by rw [cls_10 _ _ h1 h2]; rfl
  have v_blank : cls [98, 108, 97, 110, 107] c = (false, true) := by rw [cls_10 _ _ h1 h2]; rfl
  have v_cntrl : cls [99, 110, 116, 114, 108] c = (false, true) := by rw [cls_10 _ _ h1 h2]; rfl
  have v_digit : cls [100, 105, 103, 105, 116] c = (false, true) := by rw [cls_10 _ _ h1 h2]; rfl
  have v_graph : cls [103, 114, 97, 112, 104] c = (true, true) := by rw [cls_10 _ _ h1 h2]; rfl
  have v_lower : cls [108, 111, 119, 101, 114] c = (false, true) := by rw [cls_10 _ _ h1 h2]; rfl
  have v_print : cls [112, 114, 105, 110, 116] c = (true, true) := by rw [cls_10 _ _ h1 h2]; rfl
  have v_punct : cls [112, 117, 110, 99, 116] c = (true, true) := by rw [cls_10 _ _ h1 h2]; rfl
  have v_space : cls [115, 112, 97, 99, 101] c = (false, true) := by rw [cls_10 _ _ h1 h2]; rfl
  have v_upper : cls [117, 112, 112, 101, 114] c = (false, true) := by rw [cls_10 _ _ h1 h2]; rfl
  have v_xdigit : cls [120, 100, 105, 103, 105, 116] c = (false, true) := by rw [cls_10 _ _ h1 h2]; rfl
  have v_odd : cls [65, 76, 80, 72, 65] c = (false, false) := by rw [cls_10 _ _ h1 h2]; rfl
  have e32 : (c == 32) = false := by simp; omega
  go_enter Try.func4, Try.ntmps4
  go_wp2_with (go_at_call 11; refine (zz_any _ _ (by omega) (by omega) _).mono ?_; rintro e w' ⟨rfl, rfl⟩)
  go_ret
  exact ⟨rfl, rfl⟩

set_option maxRecDepth 100000 in
set_option maxHeartbeats 1000000 in
theorem walk_11 (c : Int) (h1 : 97 ≤ c) (h2 : c ≤ 102) (w : World) :
    Calls Try.prog 4 #[.int .u8 c] w fun e w' => e = .returned (.bool true) ∧ w' = w := by
  have v_alnum : cls [97, 108, 110, 117, 109] c = (true, true) := by rw [cls_11 _ _ h1 h2]; rfl
  have v_alpha : cls [97, 108, 112, 104, 97] c = (true, true) := by rw [cls_11 _ _ h1 h2]; rfl
  have v_blank : cls [98, 108, 97, 110, 107] c = (false, true) := by rw [cls_11 _ _ h1 h2]; rfl
  have v_cntrl : cls [99, 110, 116, 114, 108] c = (false, true) := by rw [cls_11 _ _ h1 h2]; rfl
  have v_digit : cls [100, 105, 103, 105, 116] c = (false, true) := by rw [cls_11 _ _ h1 h2]; rfl
  have v_graph : cls [103, 114, 97, 112, 104] c = (true, true) := by rw [cls_11 _ _ h1 h2]; rfl
  have v_lower : cls [108, 111, 119, 101, 114] c = (true, true) := by rw [cls_11 _ _ h1 h2]; rfl
  have v_print : cls [112, 114, 105, 110, 116] c = (true, true) := by rw [cls_11 _ _ h1 h2]; rfl
  have v_punct : cls [112, 117, 110, 99, 116] c = (false, true) := by rw [cls_11 _ _ h1 h2]; rfl
  have v_space : cls [115, 112, 97, 99, 101] c = (false, true) := by rw [cls_11 _ _ h1 h2]; rfl
  have v_upper : cls [117, 112, 112, 101, 114] c = (false, true) := by rw [cls_11 _ _ h1 h2]; rfl
  have v_xdigit : cls [120, 100, 105, 103, 105, 116] c = (true, true) := by rw [cls_11 _ _ h1 h2]; rfl
  have v_odd : cls [65, 76, 80, 72, 65] c = (false, false) := by rw [cls_11 _ _ h1 h2]; rfl
  have e32 : (c == 32) = false := by simp; omega
  go_enter Try.func4, Try.ntmps4
  go_wp2_with (go_at_call 11; refine (zz_any _ _ (by omega) (by omega) _).mono ?_; rintro e w' ⟨rfl, rfl⟩)
  go_ret
  exact ⟨rfl, rfl⟩

set_option maxRecDepth 100000 in
set_option maxHeartbeats 1000000 in
theorem walk_12 (c : Int) (h1 : 103 ≤ c) (h2 : c ≤ 122) (w : World) :
    Calls Try.prog 4 #[.int .u8 c] w fun e w' => e = .returned (.bool true) ∧ w' = w := by
  have v_alnum : cls [97, 108, 110, 117, 109] c = (true, true) := by rw [cls_12 _ _ h1 h2]; rfl
  have v_alpha : cls [97, 108, 112, 104, 97] c = (true, true) := by rw [cls_12 _ _ h1 h2]; rfl
  have v_blank : cls [98, 108, 97, 110, 107] c = (false, true) := by rw [cls_12 _ _ h1 h2]; rfl
  have v_cntrl : cls [99, 110, 116, 114, 108] c = (false, true) := by rw [cls_12 _ _ h1 h2]; rfl
  have v_digit : cls [100, 105, 103, 105, 116] c = (false, true) := by rw [cls_12 _ _ h1 h2]; rfl
  have v_graph : cls [103, 114, 97, 112, 104] c = (true, true) := by rw [cls_12 _ _ h1 h2]; rfl
  have v_lower : cls [108, 111, 119, 101, 114] c = (true, true) := by rw [cls_12 _ _ h1 h2]; rfl
  have v_print : cls [112, 114, 105, 110, 116] c = (true, true) := by rw [cls_12 _ _ h1 h2]; rfl
  have v_punct : cls [112, 117, 110, 99, 116] c = (false, true) := by rw [cls_12 _ _ h1 h2]; rfl
  have v_space : cls [115, 112, 97, 99, 101] c = (false, true) := by rw [cls_12 _ _ h1 h2]; rfl
  have v_upper : cls [117, 112, 112, 101, 114] c = (false, true) := by rw [cls_12 _ _ h1 h2]; rfl
  have v_xdigit : cls [120, 100, 105, 103, 105, 116] c = (false, true) := by rw [cls_12 _ _ h1 h2]; rfl
  have v_odd : cls [65, 76, 80, 72, 65] c = (false, false) := by rw [cls_12 _ _ h1 h2]; rfl
  have e32 : (c == 32) = false := by simp; omega
  go_enter Try.func4, Try.ntmps4
  go_wp2_with (go_at_call 11; refine (zz_any _ _ (by omega) (by omega) _).mono ?_; rintro e w' ⟨rfl, rfl⟩)
  go_ret
  exact ⟨rfl, rfl⟩

set_option maxRecDepth 100000 in
set_option maxHeartbeats 1000000 in
theorem walk_13 (c : Int) (h1 : 123 ≤ c) (h2 : c ≤ 126) (w : World) :
    Calls Try.prog 4 #[.int .u8 c] w fun e w' => e = .returned (.bool true) ∧ w' = w := by
  have v_alnum : cls [97, 108, 110, 117, 109] c = (false, true) := by rw [cls_13 _ _ h1 h2]; rfl
  have v_alpha : cls [97, 108, 112, 104, 97] c = (false, true) := by rw [cls_13 _ _ h1 h2]; rfl
  have v_blank : cls [98, 108, 97, 110, 107] c = (false, true) := by rw [cls_13 _ _ h1 h2]; rfl
  have v_cntrl : cls [99, 110, 116, 114, 108] c = (false, true) := by rw [cls_13 _ _ h1 h2]; rfl
  have v_digit : cls [100, 105, 103, 105, 116] c = (false, true) := by rw [cls_13 _ _ h1 h2]; rfl
  have v_graph : cls [103, 114, 97, 112, 104] c = (true, true) := by rw [cls_13 _ _ h1 h2]; rfl
  have v_lower : cls [108, 111, 119, 101, 114] c = (false, true) := by rw [cls_13 _ _ h1 h2]; rfl
  have v_print : cls [112, 114, 105, 110, 116] c = (true, true) := by rw [cls_13 _ _ h1 h2]; rfl
  have v_punct : cls [112, 117, 110, 99, 116] c = (true, true) := by rw [cls_13 _ _ h1 h2]; rfl
  have v_space : cls [115, 112, 97, 99, 101] c = (false, true) := by rw [cls_13 _ _ h1 h2]; rfl
  have v_upper : cls [117, 112, 112, 101, 114] c = (false, true) := by rw [cls_13 _ _ h1 h2]; rfl
  have v_xdigit : cls [120, 100, 105, 103, 105, 116] c = (false, true) := by rw [cls_13 _ _ h1 h2]; rfl
  have v_odd : cls [65, 76, 80, 72, 65] c = (false, false) := by rw [cls_13 _ _ h1 h2]; rfl
  have e32 : (c == 32) = false := by simp; omega
  go_enter Try.func4, Try.ntmps4
  go_wp2_with (go_at_call 11; refine (zz_any _ _ (by omega) (by omega) _).mono ?_; rintro e w' ⟨rfl, rfl⟩)
  go_ret
  exact ⟨rfl, rfl⟩

set_option maxRecDepth 100000 in
set_option maxHeartbeats 1000000 in
theorem walk_14 (c : Int) (h1 : 127 ≤ c) (h2 : c ≤ 127) (w : World) :
    Calls Try.prog 4 #[.int .u8 c] w fun e w' => e = .returned (.bool true) ∧ w' = w := by
  have v_alnum : cls [97, 108, 110, 117, 109] c = (false, true) := by rw [cls_14 _ _ h1 h2]; rfl
  have v_alpha : cls [97, 108, 112, 104, 97] c = (false, true) := by rw [cls_14 _ _ h1 h2]; rfl
  have v_blank : cls [98, 108, 97, 110, 107] c = (false, true) := by rw [cls_14 _ _ h1 h2]; rfl
  have v_cntrl : cls [99, 110, 116, 114, 108] c = (true, true) := by rw [cls_14 _ _ h1 h2]; rfl
  have v_digit : cls [100, 105, 103, 105, 116] c = (false, true) := by rw [cls_14 _ _ h1 h2]; rfl
  have v_graph : cls [103, 114, 97, 112, 104] c = (false, true) := by rw [cls_14 _ _ h1 h2]; rfl
  have v_lower : cls [108, 111, 119, 101, 114] c = (false, true) := by rw [cls_14 _ _ h1 h2]; rfl
  have v_print : cls [112, 114, 105, 110, 116] c = (false, true) := by rw [cls_14 _ _ h1 h2]; rfl
  have v_punct : cls [112, 117, 110, 99, 116] c = (false, true) := by rw [cls_14 _ _ h1 h2]; rfl
  have v_space : cls [115, 112, 97, 99, 101] c = (false, true) := by rw [cls_14 _ _ h1 h2]; rfl
  have v_upper : cls [117, 112, 112, 101, 114] c = (false, true) := by rw [cls_14 _ _ h1 h2]; rfl
  have v_xdigit : cls [120, 100, 105, 103, 105, 116] c = (false, true) := by rw [cls_14 _ _ h1 h2]; rfl
  have v_odd : cls [65, 76, 80, 72, 65] c = (false, false) := by rw [cls_14 _ _ h1 h2]; rfl
  have e32 : (c == 32) = false := by simp; omega
  go_enter Try.func4, Try.ntmps4
  go_wp2_with (go_at_call 11; refine (zz_any _ _ (by omega) (by omega) _).mono ?_; rintro e w' ⟨rfl, rfl⟩)
  go_ret
  exact ⟨rfl, rfl⟩

set_option maxRecDepth 100000 in
set_option maxHeartbeats 1000000 in
theorem walk_15 (c : Int) (h1 : 128 ≤ c) (h2 : c ≤ 255) (w : World) :
    Calls Try.prog 4 #[.int .u8 c] w fun e w' => e = .returned (.bool true) ∧ w' = w := by
  have v_alnum : cls [97, 108, 110, 117, 109] c = (false, true) := by rw [cls_15 _ _ h1 h2]; rfl
  have v_alpha : cls [97, 108, 112, 104, 97] c = (false, true) := by rw [cls_15 _ _ h1 h2]; rfl
  have v_blank : cls [98, 108, 97, 110, 107] c = (false, true) := by rw [cls_15 _ _ h1 h2]; rfl
  have v_cntrl : cls [99, 110, 116, 114, 108] c = (false, true) := by rw [cls_15 _ _ h1 h2]; rfl
  have v_digit : cls [100, 105, 103, 105, 116] c = (false, true) := by rw [cls_15 _ _ h1 h2]; rfl
  have v_graph : cls [103, 114, 97, 112, 104] c = (false, true) := by rw [cls_15 _ _ h1 h2]; rfl
  have v_lower : cls [108, 111, 119, 101, 114] c = (false, true) := by rw [cls_15 _ _ h1 h2]; rfl
  have v_print : cls [112, 114, 105, 110, 116] c = (false, true) := by rw [cls_15 _ _ h1 h2]; rfl
  have v_punct : cls [112, 117, 110, 99, 116] c = (false, true) := by rw [cls_15 _ _ h1 h2]; rfl
  have v_space : cls [115, 112, 97, 99, 101] c = (false, true) := by rw [cls_15 _ _ h1 h2]; rfl
  have v_upper : cls [117, 112, 112, 101, 114] c = (false, true) := by rw [cls_15 _ _ h1 h2]; rfl
  have v_xdigit : cls [120, 100, 105, 103, 105, 116] c = (false, true) := by rw [cls_15 _ _ h1 h2]; rfl
  have v_odd : cls [65, 76, 80, 72, 65] c = (false, false) := by rw [cls_15 _ _ h1 h2]; rfl
  have e32 : (c == 32) = false := by simp; omega
  go_enter Try.func4, Try.ntmps4
  go_wp2_with (go_at_call 11; refine (zz_any _ _ (by omega) (by omega) _).mono ?_; rintro e w' ⟨rfl, rfl⟩)
  go_ret
  exact ⟨rfl, rfl⟩

/-! ### STEP 1: THE WALK -/
theorem walk (a0 : Int) (w0 : (Lit.int .u8 a0).wf = true) (w : World) :
    Calls Try.prog 4 #[.int .u8 a0] w fun e w' => e = .returned (.bool true) ∧ Grown w w' := by
  have hb := bounds_u8 w0
  have key : Calls Try.prog 4 #[.int .u8 a0] w fun e w' => e = .returned (.bool true) ∧ w' = w := by
    by_cases g0 : a0 ≤ 8
    · exact walk_0 a0 (by omega) g0 w
    by_cases g1 : a0 ≤ 9
    · exact walk_1 a0 (by omega) g1 w
    by_cases g2 : a0 ≤ 13
    · exact walk_2 a0 (by omega) g2 w
    by_cases g3 : a0 ≤ 31
    · exact walk_3 a0 (by omega) g3 w
    by_cases g4 : a0 ≤ 32
    · exact walk_4 a0 (by omega) g4 w
    by_cases g5 : a0 ≤ 47
    · exact walk_5 a0 (by omega) g5 w
    by_cases g6 : a0 ≤ 57
    · exact walk_6 a0 (by omega) g6 w
    by_cases g7 : a0 ≤ 64
    · exact walk_7 a0 (by omega) g7 w
    by_cases g8 : a0 ≤ 70
    · exact walk_8 a0 (by omega) g8 w
    by_cases g9 : a0 ≤ 90
    · exact walk_9 a0 (by omega) g9 w
    by_cases g10 : a0 ≤ 96
    · exact walk_10 a0 (by omega) g10 w
    by_cases g11 : a0 ≤ 102
    · exact walk_11 a0 (by omega) g11 w
    by_cases g12 : a0 ≤ 122
    · exact walk_12 a0 (by omega) g12 w
    by_cases g13 : a0 ≤ 126
    · exact walk_13 a0 (by omega) g13 w
    by_cases g14 : a0 ≤ 127
    · exact walk_14 a0 (by omega) g14 w
    exact walk_15 a0 (by omega) (by omega) w
  refine key.mono ?_
  rintro e w' ⟨rfl, rfl⟩
  exact ⟨rfl, Grown.refl _⟩

/-! ### THE ROW's STEP: WRITTEN OUT: LEAVE IT -/
set_option maxRecDepth 100000 in
theorem lifted (os : Os) (started : os.Started) (H : Type) (enc : TypeId × Value → H) :
    ReturnsInHanded {} Try.checked os 4 .any (Rows.fnIsClassFamiliesNestSpec.pre6 enc Try.prog Try.f4 Rows.fnIsClassFamiliesNestRow.domain false) (Rows.fnIsClassFamiliesNestSpec.post enc Try.prog Try.f4 false true false false) := by
  refine returnsInHanded_of_change (C := Try.checked) own started (by kernel_rfl) Try.func4
    (ChangeSpec.witness6 (enc := enc) (C := Try.checked) false ⟨#[], #[.int .u8 0], []⟩ 8 (by kernel_rfl) (by kernel_rfl) (by kernel_rfl) (by kernel_rfl)) ?_
  intro W base args ds gs before hval0 hW hcnd _
  have hval : ∀ (j : Nat) t v, Try.f4.params[j]? = some t → args[j]? = some v → Value.okWide Try.prog W .any base t v := hval0
  have hW' := hW
  obtain ⟨p, q, hA0, hV, rfl, hfz, hnd⟩ := hW
  have hA : DataW.TrodAll enc Try.prog W 0 (fun _ => true) true Try.f4.params.toList args.toList ds p := hA0
  rw [Try.params4] at hA hval
  obtain ⟨v0, vs0, d0, ds0, p0, q0, hargs, rfl, rfl, h0, r0⟩ := trodAll_cons hA
  obtain ⟨rfl, rfl, rfl⟩ := trodAll_nil r0
  obtain rfl : args = #[v0] := by cases args; simp_all
  obtain ⟨rfl, rfl⟩ := trodVars_none hV
  obtain ⟨a0, rfl, rfl, rfl, w0⟩ := open_int Try.underlying5 (hval 0 5 v0 rfl rfl) h0
  clear hA0 hval0
  simp only [List.append_nil] at hW'
  refine (walk a0 w0 W).mono fun e W' ⟨he, hg⟩ => ?_
  subst he
  exact ⟨_, rfl, post_of_same (pa := []) (pv := []) hW' (fun _ _ _ => (trodAll_cons_mk (shut_bool Try.underlying4 _) trodAll_mk0)) (fun sp _ => (trodAll_cons_mk (shut_int Try.underlying5 w0) trodAll_mk0)) (fun _ _ => rfl) rfl
    (hg.frame _) hg.2.1 (ok_one (by kernel_rfl) rfl (okWide_bool_mk Try.underlying4 _))⟩

theorem over : Rows.fnIsClassFamiliesNestRow.holds Try.pinned (OpenSpec.ofChange Rows.fnIsClassFamiliesNestSpec) :=
  OpenClaim.holds_of_wide 4 Try.f4 rfl rfl rfl rfl rfl rfl rfl ⟨rfl, rfl, rfl, rfl, rfl⟩ rfl rfl rfl rfl rfl (by kernel_rfl) Try.func4 (by kernel_rfl)
    (of_decide_eq_true (by kernel_rfl)) (by unfold Func.isWrapper; first | (rw [if_pos (by decide +kernel)]; kernel_rfl) | (rw [if_neg (by decide +kernel)]; exact ⟨rfl, rfl⟩))
    (fun os started H enc _ => lifted os started H enc)

/-- ████ THE STATEMENT ████ -/
theorem proved : Rows.FnIsClassFamiliesNestSaid :=
  over
end Go.Proofs.Qxb6601775a.fnIsClassFamiliesNest
namespace Go.Proofs.Qxb6601775a
theorem families_nest_proved : Rows.FnIsClassFamiliesNestSaid := fnIsClassFamiliesNest.proved
end Go.Proofs.Qxb6601775a
