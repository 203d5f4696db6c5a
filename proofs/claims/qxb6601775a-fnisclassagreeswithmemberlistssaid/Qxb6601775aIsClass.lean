/- The contract of isClass (function 21) and of ZZisClass (function 11): whatever the name and the byte, it answers 'cls', and the world stands.
   The byte is parted into sixteen ranges in which every test of the text is decided; the name is parted by the walk itself. -/
import Derived.Test.Qxb6601775aRows
import Derived.Test.Qxb6601775aPlain
import Derived.WalkKit
import Derived.ProofKit
namespace Go.Proofs.Qxb6601775a
open Go.ChangeShapes Go.WideShapes Go.ChangeAt Go.RowKit

theorem ret_cls {l : List UInt8} {c : Int} {a b : Bool} (h : cls l c = (a, b)) :
    Ending.returned (.tuple #[.bool a, .bool b]) = .returned (.tuple #[.bool (cls l c).1, .bool (cls l c).2]) := by rw [h]

set_option maxHeartbeats 1000000 in
theorem is_0 (s : ByteArray) (c : Int) (h1 : 0 ≤ c) (h2 : c ≤ 8) (w : World) :
    Calls Try.prog 21 #[.string s, .int .u8 c] w fun e w' => e = .returned (.tuple #[.bool (cls s.toList c).1, .bool (cls s.toList c).2]) ∧ w' = w := by
  have e32 : (c == 32) = false := by simp; omega
  have e9 : (c == 9) = false := by simp; omega
  have e127 : (c == 127) = false := by simp; omega
  go_enter Try.func21, Try.ntmps21
  go_wp2
  all_goals
    go_ret2
    exact ⟨ret_cls (by rw [cls_0 _ _ (by omega) (by omega)]; simp only [*, reduceIte, Bool.false_eq_true]; first | done | (simp; done) | (simp; omega)), rfl⟩

set_option maxHeartbeats 1000000 in
theorem is_1 (s : ByteArray) (c : Int) (h1 : 9 ≤ c) (h2 : c ≤ 9) (w : World) :
    Calls Try.prog 21 #[.string s, .int .u8 c] w fun e w' => e = .returned (.tuple #[.bool (cls s.toList c).1, .bool (cls s.toList c).2]) ∧ w' = w := by
  have e32 : (c == 32) = false := by simp; omega
  have e9 : (c == 9) = true := by simp; omega
  have e127 : (c == 127) = false := by simp; omega
  go_enter Try.func21, Try.ntmps21
  go_wp2
  all_goals
    go_ret2
    exact ⟨ret_cls (by rw [cls_1 _ _ (by omega) (by omega)]; simp only [*, reduceIte, Bool.false_eq_true]; first | done | (simp; done) | (simp; omega)), rfl⟩

set_option maxHeartbeats 1000000 in
theorem is_2 (s : ByteArray) (c : Int) (h1 : 10 ≤ c) (h2 : c ≤ 13) (w : World) :
    Calls Try.prog 21 #[.string s, .int .u8 c] w fun e w' => e = .returned (.tuple #[.bool (cls s.toList c).1, .bool (cls s.toList c).2]) ∧ w' = w := by
  have e32 : (c == 32) = false := by simp; omega
  have e9 : (c == 9) = false := by simp; omega
  have e127 : (c == 127) = false := by simp; omega
  go_enter Try.func21, Try.ntmps21
  go_wp2
  all_goals
    go_ret2
    exact ⟨ret_cls (by rw [cls_2 _ _ (by omega) (by omega)]; simp only [*, reduceIte, Bool.false_eq_true]; first | done | (simp; done) | (simp; omega)), rfl⟩

set_option maxHeartbeats 1000000 in
theorem is_3 (s : ByteArray) (c : Int) (h1 : 14 ≤ c) (h2 : c ≤ 31) (w : World) :
    Calls Try.prog 21 #[.string s, .int .u8 c] w fun e w' => e = .returned (.tuple #[.bool (cls s.toList c).1, .bool (cls s.toList c).2]) ∧ w' = w := by
  have e32 : (c == 32) = false := by simp; omega
  have e9 : (c == 9) = false := by simp; omega
  have e127 : (c == 127) = false := by simp; omega
  go_enter Try.func21, Try.ntmps21
  go_wp2
  all_goals
    go_ret2
    exact ⟨ret_cls (by rw [cls_3 _ _ (by omega) (by omega)]; simp only [*, reduceIte, Bool.false_eq_true]; first | done | (simp; done) | (simp; omega)), rfl⟩

set_option maxHeartbeats 1000000 in
theorem is_4 (s : ByteArray) (c : Int) (h1 : 32 ≤ c) (h2 : c ≤ 32) (w : World) :
    Calls Try.prog 21 #[.string s, .int .u8 c] w fun e w' => e = .returned (.tuple #[.bool (cls s.toList c).1, .bool (cls s.toList c).2]) ∧ w' = w := by
  have e32 : (c == 32) = true := by simp; omega
  have e9 : (c == 9) = false := by simp; omega
  have e127 : (c == 127) = false := by simp; omega
  go_enter Try.func21, Try.ntmps21
  go_wp2
  all_goals
    go_ret2
    exact ⟨ret_cls (by rw [cls_4 _ _ (by omega) (by omega)]; simp only [*, reduceIte, Bool.false_eq_true]; first | done | (simp; done) | (simp; omega)), rfl⟩

set_option maxHeartbeats 1000000 in
theorem is_5 (s : ByteArray) (c : Int) (h1 : 33 ≤ c) (h2 : c ≤ 47) (w : World) :
    Calls Try.prog 21 #[.string s, .int .u8 c] w fun e w' => e = .returned (.tuple #[.bool (cls s.toList c).1, .bool (cls s.toList c).2]) ∧ w' = w := by
  have e32 : (c == 32) = false := by simp; omega
  have e9 : (c == 9) = false := by simp; omega
  have e127 : (c == 127) = false := by simp; omega
  go_enter Try.func21, Try.ntmps21
  go_wp2
  all_goals
    go_ret2
    exact ⟨ret_cls (by rw [cls_5 _ _ (by omega) (by omega)]; simp only [*, reduceIte, Bool.false_eq_true]; first | done | (simp; done) | (simp; omega)), rfl⟩

set_option maxHeartbeats 1000000 in
theorem is_6 (s : ByteArray) (c : Int) (h1 : 48 ≤ c) (h2 : c ≤ 57) (w : World) :
    Calls Try.prog 21 #[.string s, .int .u8 c] w fun e w' => e = .returned (.tuple #[.bool (cls s.toList c).1, .bool (cls s.toList c).2]) ∧ w' = w := by
  have e32 : (c == 32) = false := by simp; omega
  have e9 : (c == 9) = false := by simp; omega
  have e127 : (c == 127) = false := by simp; omega
  go_enter Try.func21, Try.ntmps21
  go_wp2
  all_goals
    go_ret2
    exact ⟨ret_cls (by rw [cls_6 _ _ (by omega) (by omega)]; simp only [*, reduceIte, Bool.false_eq_true]; first | done | (simp; done) | (simp; omega)), rfl⟩

set_option maxHeartbeats 1000000 in
theorem is_7 (s : ByteArray) (c : Int) (h1 : 58 ≤ c) (h2 : c ≤ 64) (w : World) :
    Calls Try.prog 21 #[.string s, .int .u8 c] w fun e w' => e = .returned (.tuple #[.bool (cls s.toList c).1, .bool (cls s.toList c).2]) ∧ w' = w := by
  have e32 : (c == 32) = false := by simp; omega
  have e9 : (c == 9) = false := by simp; omega
  have e127 : (c == 127) = false := by simp; omega
  go_enter Try.func21, Try.ntmps21
  go_wp2
  all_goals
    go_ret2
    exact ⟨ret_cls (by rw [cls_7 _ _ (by omega) (by omega)]; simp only [*, reduceIte, Bool.false_eq_true]; first | done | (simp; done) | (simp; omega)), rfl⟩

set_option maxHeartbeats 1000000 in
theorem is_8 (s : ByteArray) (c : Int) (h1 : 65 ≤ c) (h2 : c ≤ 70) (w : World) :
    Calls Try.prog 21 #[.string s, .int .u8 c] w fun e w' => e = .returned (.tuple #[.bool (cls s.toList c).1, .bool (cls s.toList c).2]) ∧ w' = w := by
  have e32 : (c == 32) = false := by simp; omega
  have e9 : (c == 9) = false := by simp; omega
  have e127 : (c == 127) = false := by simp; omega
  go_enter Try.func21, Try.ntmps21
  go_wp2
  all_goals
    go_ret2
    exact ⟨ret_cls (by rw [cls_8 _ _ (by omega) (by omega)]; simp only [*, reduceIte, Bool.false_eq_true]; first | done | (simp; done) | (simp; omega)), rfl⟩

set_option maxHeartbeats 1000000 in
theorem is_9 (s : ByteArray) (c : Int) (h1 : 71 ≤ c) (h2 : c ≤ 90) (w : World) :
    Calls Try.prog 21 #[.string s, .int .u8 c] w fun e w' => e = .returned (.tuple #[.bool (cls s.toList c).1, .bool (cls s.toList c).2]) ∧ w' = w := by
  have e32 : (c == 32) = false := by simp; omega
  have e9 : (c == 9) = false := by simp; omega
  have e127 : (c == 127) = false := by simp; omega
  go_enter Try.func21, Try.ntmps21
  go_wp2
  all_goals
    go_ret2
    exact ⟨ret_cls (by rw [cls_9 _ _ (by omega) (by omega)]; simp only [*, reduceIte, Bool.false_eq_true]; first | done | (simp; done) | (simp; omega)), rfl⟩

set_option maxHeartbeats 1000000 in
theorem is_10 (s : ByteArray) (c : Int) (h1 : 91 ≤ c) (h2 : c ≤ 96) (w : World) :
    Calls Try.prog 21 #[.string s, .int .u8 c] w fun e w' => e = .returned (.tuple #[.bool (cls s.toList c).1, .bool (cls s.toList c).2]) ∧ w' = w := by
  have e32 : (c == 32) = false := by simp; omega
  have e9 : (c == 9) = false := by simp; omega
  have e127 : (c == 127) = false := by simp; omega
  go_enter Try.func21, Try.ntmps21
  go_wp2
  all_goals
    go_ret2
    exact ⟨ret_cls (by rw [cls_10 _ _ (by omega) (by omega)]; simp only [*, reduceIte, Bool.false_eq_true]; first | done | (simp; done) | (simp; omega)), rfl⟩

set_option maxHeartbeats 1000000 in
theorem is_11 (s : ByteArray) (c : Int) (h1 : 97 ≤ c) (h2 : c ≤ 102) (w : World) :
    Calls Try.prog 21 #[.string s, .int .u8 c] w fun e w' => e = .returned (.tuple #[.bool (cls s.toList c).1, .bool (cls s.toList c).2]) ∧ w' = w := by
  have e32 : (c == 32) = false := by simp; omega
  have e9 : (c == 9) = false := by simp; omega
  have e127 : (c == 127) = false := by simp; omega
  go_enter Try.func21, Try.ntmps21
  go_wp2
  all_goals
    go_ret2
    exact ⟨ret_cls (by rw [cls_11 _ _ (by omega) (by omega)]; simp only [*, reduceIte, Bool.false_eq_true]; first | done | (simp; done) | (simp; omega)), rfl⟩

set_option maxHeartbeats 1000000 in
theorem is_12 (s : ByteArray) (c : Int) (h1 : 103 ≤ c) (h2 : c ≤ 122) (w : World) :
    Calls Try.prog 21 #[.string s, .int .u8 c] w fun e w' => e = .returned (.tuple #[.bool (cls s.toList c).1, .bool (cls s.toList c).2]) ∧ w' = w := by
  have e32 : (c == 32) = false := by simp; omega
  have e9 : (c == 9) = false := by simp; omega
  have e127 : (c == 127) = false := by simp; omega
  go_enter Try.func21, Try.ntmps21
  go_wp2
  all_goals
    go_ret2
    exact ⟨ret_cls (by rw [cls_12 _ _ (by omega) (by omega)]; simp only [*, reduceIte, Bool.false_eq_true]; first | done | (simp; done) | (simp; omega)), rfl⟩

set_option maxHeartbeats 1000000 in
theorem is_13 (s : ByteArray) (c : Int) (h1 : 123 ≤ c) (h2 : c ≤ 126) (w : World) :
    Calls Try.prog 21 #[.string s, .int .u8 c] w fun e w' => e = .returned (.tuple #[.bool (cls s.toList c).1, .bool (cls s.toList c).2]) ∧ w' = w := by
  have e32 : (c == 32) = false := by simp; omega
  have e9 : (c == 9) = false := by simp; omega
  have e127 : (c == 127) = false := by simp; omega
  go_enter Try.func21, Try.ntmps21
  go_wp2
  all_goals
    go_ret2
    exact ⟨ret_cls (by rw [cls_13 _ _ (by omega) (by omega)]; simp only [*, reduceIte, Bool.false_eq_true]; first | done | (simp; done) | (simp; omega)), rfl⟩

set_option maxHeartbeats 1000000 in
theorem is_14 (s : ByteArray) (c : Int) (h1 : 127 ≤ c) (h2 : c ≤ 127) (w : World) :
    Calls Try.prog 21 #[.string s, .int .u8 c] w fun e w' => e = .returned (.tuple #[.bool (cls s.toList c).1, .bool (cls s.toList c).2]) ∧ w' = w := by
  have e32 : (c == 32) = false := by simp; omega
  have e9 : (c == 9) = false := by simp; omega
  have e127 : (c == 127) = true := by simp; omega
  go_enter Try.func21, Try.ntmps21
  go_wp2
  all_goals
    go_ret2
    exact ⟨ret_cls (by rw [cls_14 _ _ (by omega) (by omega)]; simp only [*, reduceIte, Bool.false_eq_true]; first | done | (simp; done) | (simp; omega)), rfl⟩

set_option maxHeartbeats 1000000 in
theorem is_15 (s : ByteArray) (c : Int) (h1 : 128 ≤ c) (h2 : c ≤ 255) (w : World) :
    Calls Try.prog 21 #[.string s, .int .u8 c] w fun e w' => e = .returned (.tuple #[.bool (cls s.toList c).1, .bool (cls s.toList c).2]) ∧ w' = w := by
  have e32 : (c == 32) = false := by simp; omega
  have e9 : (c == 9) = false := by simp; omega
  have e127 : (c == 127) = false := by simp; omega
  go_enter Try.func21, Try.ntmps21
  go_wp2
  all_goals
    go_ret2
    exact ⟨ret_cls (by rw [cls_15 _ _ (by omega) (by omega)]; simp only [*, reduceIte, Bool.false_eq_true]; first | done | (simp; done) | (simp; omega)), rfl⟩

theorem is_any (s : ByteArray) (c : Int) (h1 : 0 ≤ c) (h2 : c ≤ 255) (w : World) :
    Calls Try.prog 21 #[.string s, .int .u8 c] w fun e w' => e = .returned (.tuple #[.bool (cls s.toList c).1, .bool (cls s.toList c).2]) ∧ w' = w := by
  by_cases g0 : c ≤ 8
  · exact is_0 s c (by omega) g0 w
  by_cases g1 : c ≤ 9
  · exact is_1 s c (by omega) g1 w
  by_cases g2 : c ≤ 13
  · exact is_2 s c (by omega) g2 w
  by_cases g3 : c ≤ 31
  · exact is_3 s c (by omega) g3 w
  by_cases g4 : c ≤ 32
  · exact is_4 s c (by omega) g4 w
  by_cases g5 : c ≤ 47
  · exact is_5 s c (by omega) g5 w
  by_cases g6 : c ≤ 57
  · exact is_6 s c (by omega) g6 w
  by_cases g7 : c ≤ 64
  · exact is_7 s c (by omega) g7 w
  by_cases g8 : c ≤ 70
  · exact is_8 s c (by omega) g8 w
  by_cases g9 : c ≤ 90
  · exact is_9 s c (by omega) g9 w
  by_cases g10 : c ≤ 96
  · exact is_10 s c (by omega) g10 w
  by_cases g11 : c ≤ 102
  · exact is_11 s c (by omega) g11 w
  by_cases g12 : c ≤ 122
  · exact is_12 s c (by omega) g12 w
  by_cases g13 : c ≤ 126
  · exact is_13 s c (by omega) g13 w
  by_cases g14 : c ≤ 127
  · exact is_14 s c (by omega) g14 w
  exact is_15 s c (by omega) h2 w

set_option maxHeartbeats 1000000 in
theorem zz_any (s : ByteArray) (c : Int) (h1 : 0 ≤ c) (h2 : c ≤ 255) (w : World) :
    Calls Try.prog 11 #[.string s, .int .u8 c] w fun e w' => e = .returned (.tuple #[.bool (cls s.toList c).1, .bool (cls s.toList c).2]) ∧ w' = w := by
  go_enter Try.func11, Try.ntmps11
  go_wp2_with (go_at_call 21; refine (is_any _ _ h1 h2 _).mono ?_; rintro e w' ⟨rfl, rfl⟩)
  go_ret2
  exact ⟨rfl, rfl⟩

end Go.Proofs.Qxb6601775a
