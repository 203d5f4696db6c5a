/- The contract of zcModel (function 12): whatever the name and the byte, it answers 'cls' too, and the world stands. -/
import Derived.Test.Qxb6601775aHas
import Derived.Test.Qxb6601775aIsClass
namespace Go.Proofs.Qxb6601775a
open Go.ChangeShapes Go.WideShapes Go.ChangeAt Go.RowKit

theorem has_lowers (c : Int) : has [97, 98, 99, 100, 101, 102, 103, 104, 105, 106, 107, 108, 109, 110, 111, 112, 113, 114, 115, 116, 117, 118, 119, 120, 121, 122] c = inR 97 122 c := by
  rw [Bool.eq_iff_iff]; simp [has, inR]; omega
theorem has_uppers (c : Int) : has [65, 66, 67, 68, 69, 70, 71, 72, 73, 74, 75, 76, 77, 78, 79, 80, 81, 82, 83, 84, 85, 86, 87, 88, 89, 90] c = inR 65 90 c := by
  rw [Bool.eq_iff_iff]; simp [has, inR]; omega
theorem has_digits (c : Int) : has [48, 49, 50, 51, 52, 53, 54, 55, 56, 57] c = inR 48 57 c := by
  rw [Bool.eq_iff_iff]; simp [has, inR]; omega
theorem has_puncts (c : Int) : has [33, 34, 35, 36, 37, 38, 39, 40, 41, 42, 43, 44, 45, 46, 47, 58, 59, 60, 61, 62, 63, 64, 91, 92, 93, 94, 95, 96, 123, 124, 125, 126] c = (inR 33 47 c || inR 58 64 c || inR 91 96 c || inR 123 126 c) := by
  rw [Bool.eq_iff_iff]; simp [has, inR]; omega
theorem has_spaces (c : Int) : has [32, 9, 10, 11, 12, 13] c = (inR 32 32 c || inR 9 13 c) := by
  rw [Bool.eq_iff_iff]; simp [has, inR]; omega
theorem has_blanks (c : Int) : has [32, 9] c = (inR 32 32 c || inR 9 9 c) := by
  rw [Bool.eq_iff_iff]; simp [has, inR]; omega
theorem has_xdigits (c : Int) : has [48, 49, 50, 51, 52, 53, 54, 55, 56, 57, 97, 98, 99, 100, 101, 102, 65, 66, 67, 68, 69, 70] c = (inR 48 57 c || inR 97 102 c || inR 65 70 c) := by
  rw [Bool.eq_iff_iff]; simp [has, inR]; omega

set_option maxHeartbeats 1000000 in
theorem model_0 (s : ByteArray) (c : Int) (h1 : 0 ≤ c) (h2 : c ≤ 8) (w : World) :
    Calls Try.prog 12 #[.string s, .int .u8 c] w fun e w' => e = .returned (.tuple #[.bool (cls s.toList c).1, .bool (cls s.toList c).2]) ∧ w' = w := by
  have v_lowers : has [97, 98, 99, 100, 101, 102, 103, 104, 105, 106, 107, 108, 109, 110, 111, 112, 113, 114, 115, 116, 117, 118, 119, 120, 121, 122] c = false := by rw [has_lowers, inR_f (a := 97) (b := 122) (c := c) (by omega)]
  have v_uppers : has [65, 66, 67, 68, 69, 70, 71, 72, 73, 74, 75, 76, 77, 78, 79, 80, 81, 82, 83, 84, 85, 86, 87, 88, 89, 90] c = false := by rw [has_uppers, inR_f (a := 65) (b := 90) (c := c) (by omega)]
  have v_digits : has [48, 49, 50, 51, 52, 53, 54, 55, 56, 57] c = false := by rw [has_digits, inR_f (a := 48) (b := 57) (c := c) (by omega)]
  have v_puncts : has [33, 34, 35, 36, 37, 38, 39, 40, 41, 42, 43, 44, 45, 46, 47, 58, 59, 60, 61, 62, 63, 64, 91, 92, 93, 94, 95, 96, 123, 124, 125, 126] c = false := by rw [has_puncts, inR_f (a := 33) (b := 47) (c := c) (by omega), inR_f (a := 58) (b := 64) (c := c) (by omega), inR_f (a := 91) (b := 96) (c := c) (by omega), inR_f (a := 123) (b := 126) (c := c) (by omega)]; rfl
  have v_spaces : has [32, 9, 10, 11, 12, 13] c = false := by rw [has_spaces, inR_f (a := 32) (b := 32) (c := c) (by omega), inR_f (a := 9) (b := 13) (c := c) (by omega)]; rfl
  have v_blanks : has [32, 9] c = false := by rw [has_blanks, inR_f (a := 32) (b := 32) (c := c) (by omega), inR_f (a := 9) (b := 9) (c := c) (by omega)]; rfl
  have v_xdigits : has [48, 49, 50, 51, 52, 53, 54, 55, 56, 57, 97, 98, 99, 100, 101, 102, 65, 66, 67, 68, 69, 70] c = false := by rw [has_xdigits, inR_f (a := 48) (b := 57) (c := c) (by omega), inR_f (a := 97) (b := 102) (c := c) (by omega), inR_f (a := 65) (b := 70) (c := c) (by omega)]; rfl
  have e32 : (c == 32) = false := by simp; omega
  go_enter Try.func12, Try.ntmps12
  go_wp2_with (go_at_call 22; refine (has_any _ _ _ (by decide)).mono ?_; rintro e w' ⟨rfl, rfl⟩)
  all_goals
    go_ret2
    exact ⟨ret_cls (by rw [cls_0 _ _ (by omega) (by omega)]; simp only [*, reduceIte, Bool.false_eq_true]; first | done | (simp; done) | (simp; omega)), rfl⟩

set_option maxHeartbeats 1000000 in
theorem model_1 (s : ByteArray) (c : Int) (h1 : 9 ≤ c) (h2 : c ≤ 9) (w : World) :
    Calls Try.prog 12 #[.string s, .int .u8 c] w fun e w' => e = .returned (.tuple #[.bool (cls s.toList c).1, .bool (cls s.toList c).2]) ∧ w' = w := by
  have v_lowers : has [97, 98, 99, 100, 101, 102, 103, 104, 105, 106, 107, 108, 109, 110, 111, 112, 113, 114, 115, 116, 117, 118, 119, 120, 121, 122] c = false := by rw [has_lowers, inR_f (a := 97) (b := 122) (c := c) (by omega)]
  have v_uppers : has [65, 66, 67, 68, 69, 70, 71, 72, 73, 74, 75, 76, 77, 78, 79, 80, 81, 82, 83, 84, 85, 86, 87, 88, 89, 90] c = false := by rw [has_uppers, inR_f (a := 65) (b := 90) (c := c) (by omega)]
  have v_digits : has [48, 49, 50, 51, 52, 53, 54, 55, 56, 57] c = false := by rw [has_digits, inR_f (a := 48) (b := 57) (c := c) (by omega)]
  have v_puncts : has [33, 34, 35, 36, 37, 38, 39, 40, 41, 42, 43, 44, 45, 46, 47, 58, 59, 60, 61, 62, 63, 64, 91, 92, 93, 94, 95, 96, 123, 124, 125, 126] c = false := by rw [has_puncts, inR_f (a := 33) (b := 47) (c := c) (by omega), inR_f (a := 58) (b := 64) (c := c) (by omega), inR_f (a := 91) (b := 96) (c := c) (by omega), inR_f (a := 123) (b := 126) (c := c) (by omega)]; rfl
  have v_spaces : has [32, 9, 10, 11, 12, 13] c = true := by rw [has_spaces, inR_f (a := 32) (b := 32) (c := c) (by omega), inR_t (a := 9) (b := 13) (c := c) (by omega)]; rfl
  have v_blanks : has [32, 9] c = true := by rw [has_blanks, inR_f (a := 32) (b := 32) (c := c) (by omega), inR_t (a := 9) (b := 9) (c := c) (by omega)]; rfl
  have v_xdigits : has [48, 49, 50, 51, 52, 53, 54, 55, 56, 57, 97, 98, 99, 100, 101, 102, 65, 66, 67, 68, 69, 70] c = false := by rw [has_xdigits, inR_f (a := 48) (b := 57) (c := c) (by omega), inR_f (a := 97) (b := 102) (c := c) (by omega), inR_f (a := 65) (b := 70) (c := c) (by omega)]; rfl
  have e32 : (c == 32) = false := by simp; omega
  go_enter Try.func12, Try.ntmps12
  go_wp2_with (go_at_call 22; refine (has_any _ _ _ (by decide)).mono ?_; rintro e w' ⟨rfl, rfl⟩)
  all_goals
    go_ret2
    exact ⟨ret_cls (by rw [cls_1 _ _ (by omega) (by omega)]; simp only [*, reduceIte, Bool.false_eq_true]; first | done | (simp; done) | (simp; omega)), rfl⟩

set_option maxHeartbeats 1000000 in
theorem model_2 (s : ByteArray) (c : Int) (h1 : 10 ≤ c) (h2 : c ≤ 13) (w : World) :
    Calls Try.prog 12 #[.string s, .int .u8 c] w fun e w' => e = .returned (.tuple #[.bool (cls s.toList c).1, .bool (cls s.toList c).2]) ∧ w' = w := by
  have v_lowers : has [97, 98, 99, 100, 101, 102, 103, 104, 105, 106, 107, 108, 109, 110, 111, 112, 113, 114, 115, 116, 117, 118, 119, 120, 121, 122] c = false := by rw [has_lowers, inR_f (a := 97) (b := 122) (c := c) (by omega)]
  have v_uppers : has [65, 66, 67, 68, 69, 70, 71, 72, 73, 74, 75, 76, 77, 78, 79, 80, 81, 82, 83, 84, 85, 86, 87, 88, 89, 90] c = false := by rw [has_uppers, inR_f (a := 65) (b := 90) (c := c) (by omega)]
  have v_digits : has [48, 49, 50, 51, 52, 53, 54, 55, 56, 57] c = false := by rw [has_digits, inR_f (a := 48) (b := 57) (c := c) (by omega)]
  have v_puncts : has [33, 34, 35, 36, 37, 38, 39, 40, 41, 42, 43, 44, 45, 46, 47, 58, 59, 60, 61, 62, 63, 64, 91, 92, 93, 94, 95, 96, 123, 124, 125, 126] c = false := by rw [has_puncts, inR_f (a := 33) (b := 47) (c := c) (by omega), inR_f (a := 58) (b := 64) (c := c) (by omega), inR_f (a := 91) (b := 96) (c := c) (by omega), inR_f (a := 123) (b := 126) (c := c) (by omega)]; rfl
  have v_spaces : has [32, 9, 10, 11, 12, 13] c = true := by rw [has_spaces, inR_f (a := 32) (b := 32) (c := c) (by omega), inR_t (a := 9) (b := 13) (c := c) (by omega)]; rfl
  have v_blanks : has [32, 9] c = false := by rw [has_blanks, inR_f (a := 32) (b := 32) (c := c) (by omega), inR_f (a := 9) (b := 9) (c := c) (by omega)]; rfl
  have v_xdigits : has [48, 49, 50, 51, 52, 53, 54, 55, 56, 57, 97, 98, 99, 100, 101, 102, 65, 66, 67, 68, 69, 70] c = false := by rw [has_xdigits, inR_f (a := 48) (b := 57) (c := c) (by omega), inR_f (a := 97) (b := 102) (c := c) (by omega), inR_f (a := 65) (b := 70) (c := c) (by omega)]; rfl
  have e32 : (c == 32) = false := by simp; omega
  go_enter Try.func12, Try.ntmps12
  go_wp2_with (go_at_call 22; refine (has_any _ _ _ (by decide)).mono ?_; rintro e w' ⟨rfl, rfl⟩)
  all_goals
    go_ret2
    exact ⟨ret_cls (by rw [cls_2 _ _ (by omega) (by omega)]; simp only [*, reduceIte, Bool.false_eq_true]; first | done | (simp; done) | (simp; omega)), rfl⟩

set_option maxHeartbeats 1000000 in
theorem model_3 (s : ByteArray) (c : Int) (h1 : 14 ≤ c) (h2 : c ≤ 31) (w : World) :
    Calls Try.prog 12 #[.string s, .int .u8 c] w fun e w' => e = .returned (.tuple #[.bool (cls s.toList c).1, .bool (cls s.toList c).2]) ∧ w' = w := by
  have v_lowers : has [97, 98, 99, 100, 101, 102, 103, 104, 105, 106, 107, 108, 109, 110, 111, 112, 113, 114, 115, 116, 117, 118, 119, 120, 121, 122] c = false := by rw [has_lowers, inR_f (a := 97) (b := 122) (c := c) (by omega)]
  have v_uppers : has [65, 66, 67, 68, 69, 70, 71, 72, 73, 74, 75, 76, 77, 78, 79, 80, 81, 82, 83, 84, 85, 86, 87, 88, 89, 90] c = false := by rw [has_uppers, inR_f (a := 65) (b := 90) (c := c) (by omega)]
  have v_digits : has [48, 49, 50, 51, 52, 53, 54, 55, 56, 57] c = false := by rw [has_digits, inR_f (a := 48) (b := 57) (c := c) (by omega)]
  have v_puncts : has [33, 34, 35, 36, 37, 38, 39, 40, 41, 42, 43, 44, 45, 46, 47, 58, 59, 60, 61, 62, 63, 64, 91, 92, 93, 94, 95, 96, 123, 124, 125, 126] c = false := by rw [has_puncts, inR_f (a := 33) (b := 47) (c := c) (by omega), inR_f (a := 58) (b := 64) (c := c) (by omega), inR_f (a := 91) (b := 96) (c := c) (by omega), inR_f (a := 123) (b := 126) (c := c) (by omega)]; rfl
  have v_spaces : has [32, 9, 10, 11, 12, 13] c = false := by rw [has_spaces, inR_f (a := 32) (b := 32) (c := c) (by omega), inR_f (a := 9) (b := 13) (c := c) (by omega)]; rfl
  have v_blanks : has [32, 9] c = false := by rw [has_blanks, inR_f (a := 32) (b := 32) (c := c) (by omega), inR_f (a := 9) (b := 9) (c := c) (by omega)]; rfl
  have v_xdigits : has [48, 49, 50, 51, 52, 53, 54, 55, 56, 57, 97, 98, 99, 100, 101, 102, 65, 66, 67, 68, 69, 70] c = false := by rw [has_xdigits, inR_f (a := 48) (b := 57) (c := c) (by omega), inR_f (a := 97) (b := 102) (c := c) (by omega), inR_f (a := 65) (b := 70) (c := c) (by omega)]; rfl
  have e32 : (c == 32) = false := by simp; omega
  go_enter Try.func12, Try.ntmps12
  go_wp2_with (go_at_call 22; refine (has_any _ _ _ (by decide)).mono ?_; rintro e w' ⟨rfl, rfl⟩)
  all_goals
    go_ret2
    exact ⟨ret_cls (by rw [cls_3 _ _ (by omega) (by omega)]; simp only [*, reduceIte, Bool.false_eq_true]; first | done | (simp; done) | (simp; omega)), rfl⟩

set_option maxHeartbeats 1000000 in
theorem model_4 (s : ByteArray) (c : Int) (h1 : 32 ≤ c) (h2 : c ≤ 32) (w : World) :
    Calls Try.prog 12 #[.string s, .int .u8 c] w fun e w' => e = .returned (.tuple #[.bool (cls s.toList c).1, .bool (cls s.toList c).2]) ∧ w' = w := by
  have v_lowers : has [97, 98, 99, 100, 101, 102, 103, 104, 105, 106, 107, 108, 109, 110, 111, 112, 113, 114, 115, 116, 117, 118, 119, 120, 121, 122] c = false := by rw [has_lowers, inR_f (a := 97) (b := 122) (c := c) (by omega)]
  have v_uppers : has [65, 66, 67, 68, 69, 70, 71, 72, 73, 74, 75, 76, 77, 78, 79, 80, 81, 82, 83, 84, 85, 86, 87, 88, 89, 90] c = false := by rw [has_uppers, inR_f (a := 65) (b := 90) (c := c) (by omega)]
  have v_digits : has [48, 49, 50, 51, 52, 53, 54, 55, 56, 57] c = false := by rw [has_digits, inR_f (a := 48) (b := 57) (c := c) (by omega)]
  have v_puncts : has [33, 34, 35, 36, 37, 38, 39, 40, 41, 42, 43, 44, 45, 46, 47, 58, 59, 60, 61, 62, 63, 64, 91, 92, 93, 94, 95, 96, 123, 124, 125, 126] c = false := by rw [has_puncts, inR_f (a := 33) (b := 47) (c := c) (by omega), inR_f (a := 58) (b := 64) (c := c) (by omega), inR_f (a := 91) (b := 96) (c := c) (by omega), inR_f (a := 123) (b := 126) (c := c) (by omega)]; rfl
  have v_spaces : has [32, 9, 10, 11, 12, 13] c = true := by rw [has_spaces, inR_t (a := 32) (b := 32) (c := c) (by omega), inR_f (a := 9) (b := 13) (c := c) (by omega)]; rfl
  have v_blanks : has [32, 9] c = true := by rw [has_blanks, inR_t (a := 32) (b := 32) (c := c) (by omega), inR_f (a := 9) (b := 9) (c := c) (by omega)]; rfl
  have v_xdigits : has [48, 49, 50, 51, 52, 53, 54, 55, 56, 57, 97, 98, 99, 100, 101, 102, 65, 66, 67, 68, 69, 70] c = false := by rw [has_xdigits, inR_f (a := 48) (b := 57) (c := c) (by omega), inR_f (a := 97) (b := 102) (c := c) (by omega), inR_f (a := 65) (b := 70) (c := c) (by omega)]; rfl
  have e32 : (c == 32) = true := by simp; omega
  go_enter Try.func12, Try.ntmps12
  go_wp2_with (go_at_call 22; refine (has_any _ _ _ (by decide)).mono ?_; rintro e w' ⟨rfl, rfl⟩)
  all_goals
    go_ret2
    exact ⟨ret_cls (by rw [cls_4 _ _ (by omega) (by omega)]; simp only [*, reduceIte, Bool.false_eq_true]; first | done | (simp; done) | (simp; omega)), rfl⟩

set_option maxHeartbeats 1000000 in
theorem model_5 (s : ByteArray) (c : Int) (h1 : 33 ≤ c) (h2 : c ≤ 47) (w : World) :
    Calls Try.prog 12 #[.string s, .int .u8 c] w fun e w' => e = .returned (.tuple #[.bool (cls s.toList c).1, .bool (cls s.toList c).2]) ∧ w' = w := by
  have v_lowers : has [97, 98, 99, 100, 101, 102, 103, 104, 105, 106, 107, 108, 109, 110, 111, 112, 113, 114, 115, 116, 117, 118, 119, 120, 121, 122] c = false := by rw [has_lowers, inR_f (a := 97) (b := 122) (c := c) (by omega)]
  have v_uppers : has [65, 66, 67, 68, 69, 70, 71, 72, 73, 74, 75, 76, 77, 78, 79, 80, 81, 82, 83, 84, 85, 86, 87, 88, 89, 90] c = false := by rw [has_uppers, inR_f (a := 65) (b := 90) (c := c) (by omega)]
  have v_digits : has [48, 49, 50, 51, 52, 53, 54, 55, 56, 57] c = false := by rw [has_digits, inR_f (a := 48) (b := 57) (c := c) (by omega)]
  have v_puncts : has [33, 34, 35, 36, 37, 38, 39, 40, 41, 42, 43, 44, 45, 46, 47, 58, 59, 60, 61, 62, 63, 64, 91, 92, 93, 94, 95, 96, 123, 124, 125, 126] c = true := by rw [has_puncts, inR_t (a := 33) (b := 47) (c := c) (by omega), inR_f (a := 58) (b := 64) (c := c) (by omega), inR_f (a := 91) (b := 96) (c := c) (by omega), inR_f (a := 123) (b := 126) (c := c) (by omega)]; rfl
  have v_spaces : has [32, 9, 10, 11, 12, 13] c = false := by rw [has_spaces, inR_f (a := 32) (b := 32) (c := c) (by omega), inR_f (a := 9) (b := 13) (c := c) (by omega)]; rfl
  have v_blanks : has [32, 9] c = false := by rw [has_blanks, inR_f (a := 32) (b := 32) (c := c) (by omega), inR_f (a := 9) (b := 9) (c := c) (by omega)]; rfl
  have v_xdigits : has [48, 49, 50, 51, 52, 53, 54, 55, 56, 57, 97, 98, 99, 100, 101, 102, 65, 66, 67, 68, 69, 70] c = false := by rw [has_xdigits, inR_f (a := 48) (b := 57) (c := c) (by omega), inR_f (a := 97) (b := 102) (c := c) (by omega), inR_f (a := 65) (b := 70) (c := c) (by omega)]; rfl
  have e32 : (c == 32) = false := by simp; omega
  go_enter Try.func12, Try.ntmps12
  go_wp2_with (go_at_call 22; refine (has_any _ _ _ (by decide)).mono ?_; rintro e w' ⟨rfl, rfl⟩)
  all_goals
    go_ret2
    exact ⟨ret_cls (by rw [cls_5 _ _ (by omega) (by omega)]; simp only [*, reduceIte, Bool.false_eq_true]; first | done | (simp; done) | (simp; omega)), rfl⟩

set_option maxHeartbeats 1000000 in
theorem model_6 (s : ByteArray) (c : Int) (h1 : 48 ≤ c) (h2 : c ≤ 57) (w : World) :
    Calls Try.prog 12 #[.string s, .int .u8 c] w fun e w' => e = .returned (.tuple #[.bool (cls s.toList c).1, .bool (cls s.toList c).2]) ∧ w' = w := by
  have v_lowers : has [97, 98, 99, 100, 101, 102, 103, 104, 105, 106, 107, 108, 109, 110, 111, 112, 113, 114, 115, 116, 117, 118, 119, 120, 121, 122] c = false := by rw [has_lowers, inR_f (a := 97) (b := 122) (c := c) (by omega)]
  have v_uppers : has [65, 66, 67, 68, 69, 70, 71, 72, 73, 74, 75, 76, 77, 78, 79, 80, 81, 82, 83, 84, 85, 86, 87, 88, 89, 90] c = false := by rw [has_uppers, inR_f (a := 65) (b := 90) (c := c) (by omega)]
  have v_digits : has [48, 49, 50, 51, 52, 53, 54, 55, 56, 57] c = true := by rw [has_digits, inR_t (a := 48) (b := 57) (c := c) (by omega)]
  have v_puncts : has [33, 34, 35, 36, 37, 38, 39, 40, 41, 42, 43, 44, 45, 46, 47, 58, 59, 60, 61, 62, 63, 64, 91, 92, 93, 94, 95, 96, 123, 124, 125, 126] c = false := by rw [has_puncts, inR_f (a := 33) (b := 47) (c := c) (by omega), inR_f (a := 58) (b := 64) (c := c) (by omega), inR_f (a := 91) (b := 96) (c := c) (by omega), inR_f (a := 123) (b := 126) (c := c) (by omega)]; rfl
  have v_spaces : has [32, 9, 10, 11, 12, 13] c = false := by rw [has_spaces, inR_f (a := 32) (b := 32) (c := c) (by omega), inR_f (a := 9) (b := 13) (c := c) (by omega)]; rfl
  have v_blanks : has [32, 9] c = false := by rw [has_blanks, inR_f (a := 32) (b := 32) (c := c) (by omega), inR_f (a := 9) (b := 9) (c := c) (by omega)]; rfl
  have v_xdigits : has [48, 49, 50, 51, 52, 53, 54, 55, 56, 57, 97, 98, 99, 100, 101, 102, 65, 66, 67, 68, 69, 70] c = true := by rw [has_xdigits, inR_t (a := 48) (b := 57) (c := c) (by omega), inR_f (a := 97) (b := 102) (c := c) (by omega), inR_f (a := 65) (b := 70) (c := c) (by omega)]; rfl
  have e32 : (c == 32) = false := by simp; omega
  go_enter Try.func12, Try.ntmps12
  go_wp2_with (go_at_call 22; refine (has_any _ _ _ (by decide)).mono ?_; rintro e w' ⟨rfl, rfl⟩)
  all_goals
    go_ret2
    exact ⟨ret_cls (by rw [cls_6 _ _ (by omega) (by omega)]; simp only [*, reduceIte, Bool.false_eq_true]; first | done | (simp; done) | (simp; omega)), rfl⟩

set_option maxHeartbeats 1000000 in
theorem model_7 (s : ByteArray) (c : Int) (h1 : 58 ≤ c) (h2 : c ≤ 64) (w : World) :
    Calls Try.prog 12 #[.string s, .int .u8 c] w fun e w' => e = .returned (.tuple #[.bool (cls s.toList c).1, .bool (cls s.toList c).2]) ∧ w' = w := by
  have v_lowers : has [97, 98, 99, 100, 101, 102, 103, 104, 105, 106, 107, 108, 109, 110, 111, 112, 113, 114, 115, 116, 117, 118, 119, 120, 121, 122] c = false := by rw [has_lowers, inR_f (a := 97) (b := 122) (c := c) (by omega)]
  have v_uppers : has [65, 66, 67, 68, 69, 70, 71, 72, 73, 74, 75, 76, 77, 78, 79, 80, 81, 82, 83, 84, 85, 86, 87, 88, 89, 90] c = false := by rw [has_uppers, inR_f (a := 65) (b := 90) (c := c) (by omega)]
  have v_digits : has [48, 49, 50, 51, 52, 53, 54, 55, 56, 57] c = false := by rw [has_digits, inR_f (a := 48) (b := 57) (c := c) (by omega)]
  have v_puncts : has [33, 34, 35, 36, 37, 38, 39, 40, 41, 42, 43, 44, 45, 46, 47, 58, 59, 60, 61, 62, 63, 64, 91, 92, 93, 94, 95, 96, 123, 124, 125, 126] c = true := by rw [has_puncts, inR_f (a := 33) (b := 47) (c := c) (by omega), inR_t (a := 58) (b := 64) (c := c) (by omega), inR_f (a := 91) (b := 96) (c := c) (by omega), inR_f (a := 123) (b := 126) (c := c) (by omega)]; rfl
  have v_spaces : has [32, 9, 10, 11, 12, 13] c = false := by rw [has_spaces, inR_f (a := 32) (b := 32) (c := c) (by omega), inR_f (a := 9) (b := 13) (c := c) (by omega)]; rfl
  have v_blanks : has [32, 9] c = false := by rw [has_blanks, inR_f (a := 32) (b := 32) (c := c) (by omega), inR_f (a := 9) (b := 9) (c := c) (by omega)]; rfl
  have v_xdigits : has [48, 49, 50, 51, 52, 53, 54, 55, 56, 57, 97, 98, 99, 100, 101, 102, 65, 66, 67, 68, 69, 70] c = false := by rw [has_xdigits, inR_f (a := 48) (b := 57) (c := c) (by omega), inR_f (a := 97) (b := 102) (c := c) (by omega), inR_f (a := 65) (b := 70) (c := c) (by omega)]; rfl
  have e32 : (c == 32) = false := by simp; omega
  go_enter Try.func12, Try.ntmps12
  go_wp2_with (go_at_call 22; refine (has_any _ _ _ (by decide)).mono ?_; rintro e w' ⟨rfl, rfl⟩)
  all_goals
    go_ret2
    exact ⟨ret_cls (by rw [cls_7 _ _ (by omega) (by omega)]; simp only [*, reduceIte, Bool.false_eq_true]; first | done | (simp; done) | (simp; omega)), rfl⟩

set_option maxHeartbeats 1000000 in
theorem model_8 (s : ByteArray) (c : Int) (h1 : 65 ≤ c) (h2 : c ≤ 70) (w : World) :
    Calls Try.prog 12 #[.string s, .int .u8 c] w fun e w' => e = .returned (.tuple #[.bool (cls s.toList c).1, .bool (cls s.toList c).2]) ∧ w' = w := by
  have v_lowers : has [97, 98, 99, 100, 101, 102, 103, 104, 105, 106, 107, 108, 109, 110, 111, 112, 113, 114, 115, 116, 117, 118, 119, 120, 121, 122] c = false := by rw [has_lowers, inR_f (a := 97) (b := 122) (c := c) (by omega)]
  have v_uppers : has [65, 66, 67, 68, 69, 70, 71, 72, 73, 74, 75, 76, 77, 78, 79, 80, 81, 82, 83, 84, 85, 86, 87, 88, 89, 90] c = true := by rw [has_uppers, inR_t (a := 65) (b := 90) (c := c) (by omega)]
  have v_digits : has [48, 49, 50, 51, 52, 53, 54, 55, 56, 57] c = false := by rw [has_digits, inR_f (a := 48) (b := 57) (c := c) (by omega)]
  have v_puncts : has [33, 34, 35, 36, 37, 38, 39, 40, 41, 42, 43, 44, 45, 46, 47, 58, 59, 60, 61, 62, 63, 64, 91, 92, 93, 94, 95, 96, 123, 124, 125, 126] c = false := by rw [has_puncts, inR_f (a := 33) (b := 47) (c := c) (by omega), inR_f (a := 58) (b := 64) (c := c) (by omega), inR_f (a := 91) (b := 96) (c := c) (by omega), inR_f (a := 123) (b := 126) (c := c) (by omega)]; rfl
  have v_spaces : has [32, 9, 10, 11, 12, 13] c = false := by rw [has_spaces, inR_f (a := 32) (b := 32) (c := c) (by omega), inR_f (a := 9) (b := 13) (c := c) (by omega)]; rfl
  have v_blanks : has [32, 9] c = false := by rw [has_blanks, inR_f (a := 32) (b := 32) (c := c) (by omega), inR_f (a := 9) (b := 9) (c := c) (by omega)]; rfl
  have v_xdigits : has [48, 49, 50, 51, 52, 53, 54, 55, 56, 57, 97, 98, 99, 100, 101, 102, 65, 66, 67, 68, 69, 70] c = true := by rw [has_xdigits, inR_f (a := 48) (b := 57) (c := c) (by omega), inR_f (a := 97) (b := 102) (c := c) (by omega), inR_t (a := 65) (b := 70) (c := c) (by omega)]; rfl
  have e32 : (c == 32) = false := by simp; omega
  go_enter Try.func12, Try.ntmps12
  go_wp2_with (go_at_call 22; refine (has_any _ _ _ (by decide)).mono ?_; rintro e w' ⟨rfl, rfl⟩)
  all_goals
    go_ret2
    exact ⟨ret_cls (by rw [cls_8 _ _ (by omega) (by omega)]; simp only [*, reduceIte, Bool.false_eq_true]; first | done | (simp; done) | (simp; omega)), rfl⟩

set_option maxHeartbeats 1000000 in
theorem model_9 (s : ByteArray) (c : Int) (h1 : 71 ≤ c) (h2 : c ≤ 90) (w : World) :
    Calls Try.prog 12 #[.string s, .int .u8 c] w fun e w' => e = .returned (.tuple #[.bool (cls s.toList c).1, .bool (cls s.toList c).2]) ∧ w' = w := by
  have v_lowers : has [97, 98, 99, 100, 101, 102, 103, 104, 105, 106, 107, 108, 109, 110, 111, 112, 113, 114, 115, 116, 117, 118, 119, 120, 121, 122] c = false := by rw [has_lowers, inR_f (a := 97) (b := 122) (c := c) (by omega)]
  have v_uppers : has [65, 66, 67, 68, 69, 70, 71, 72, 73, 74, 75, 76, 77, 78, 79, 80, 81, 82, 83, 84, 85, 86, 87, 88, 89, 90] c = true := by rw [has_uppers, inR_t (a := 65) (b := 90) (c := c) (by omega)]
  have v_digits : has [48, 49, 50, 51, 52, 53, 54, 55, 56, 57] c = false := by rw [has_digits, inR_f (a := 48) (b := 57) (c := c) (by omega)]
  have v_puncts : has [33, 34, 35, 36, 37, 38, 39, 40, 41, 42, 43, 44, 45, 46, 47, 58, 59, 60, 61, 62, 63, 64, 91, 92, 93, 94, 95, 96, 123, 124, 125, 126] c = false := by rw [has_puncts, inR_f (a := 33) (b := 47) (c := c) (by omega), inR_f (a := 58) (b := 64) (c := c) (by omega), inR_f (a := 91) (b := 96) (c := c) (by omega), inR_f (a := 123) (b := 126) (c := c) (by omega)]; rfl
  have v_spaces : has [32, 9, 10, 11, 12, 13] c = false := by rw [has_spaces, inR_f (a := 32) (b := 32) (c := c) (by omega), inR_f (a := 9) (b := 13) (c := c) (by omega)]; rfl
  have v_blanks : has [32, 9] c = false := by rw [has_blanks, inR_f (a := 32) (b := 32) (c := c) (by omega), inR_f (a := 9) (b := 9) (c := c) (by omega)]; rfl
  have v_xdigits : has [48, 49, 50, 51, 52, 53, 54, 55, 56, 57, 97, 98, 99, 100, 101, 102, 65, 66, 67, 68, 69, 70] c = false := by rw [has_xdigits, inR_f (a := 48) (b := 57) (c := c) (by omega), inR_f (a := 97) (b := 102) (c := c) (by omega), inR_f (a := 65) (b := 70) (c := c) (by omega)]; rfl
  have e32 : (c == 32) = false := by simp; omega
  go_enter Try.func12, Try.ntmps12
  go_wp2_with (go_at_call 22; refine (has_any _ _ _ (by decide)).mono ?_; rintro e w' ⟨rfl, rfl⟩)
  all_goals
    go_ret2
    exact ⟨ret_cls (by rw [cls_9 _ _ (by omega) (by omega)]; simp only [*, reduceIte, Bool.false_eq_true]; first | done | (simp; done) | (simp; omega)), rfl⟩

set_option maxHeartbeats 1000000 in
theorem model_10 (s : ByteArray) (c : Int) (h1 : 91 ≤ c) (h2 : c ≤ 96) (w : World) :
    Calls Try.prog 12 #[.string s, .int .u8 c] w fun e w' => e = .returned (.tuple #[.bool (cls s.toList c).1, .bool (cls s.toList c).2]) ∧ w' = w := by
  have v_lowers : has [97, 98, 99, 100, 101, 102, 103, 104, 105, 106, 107, 108, 109, 110, 111, 112, 113, 114, 115, 116, 117, 118, 119, 120, 121, 122] c = false := by rw [has_lowers, inR_f (a := 97) (b := 122) (c := c) (by omega)]
  have v_uppers : has [65, 66, 67, 68, 69, 70, 71, 72, 73, 74, 75, 76, 77, 78, 79, 80, 81, 82, 83, 84, 85, 86, 87, 88, 89, 90] c = false := by rw [has_uppers, inR_f (a := 65) (b := 90) (c := c) (by omega)]
  have v_digits : has [48, 49, 50, 51, 52, 53, 54, 55, 56, 57] c = false := by rw [has_digits, inR_f (a := 48) (b := 57) (c := c) (by omega)]
  have v_puncts : has [33, 34, 35, 36, 37, 38, 39, 40, 41, 42, 43, 44, 45, 46, 47, 58, 59, 60, 61, 62, 63, 64, 91, 92, 93, 94, 95, 96, 123, 124, 125, 126] c = true := by rw [has_puncts, inR_f (a := 33) (b := 47) (c := c) (by omega), inR_f (a := 58) (b := 64) (c := c) (by omega), inR_t (a := 91) (b := 96) (c := c) (by omega), inR_f (a := 123) (b := 126) (c := c) (by omega)]; rfl
  have v_spaces : has [32, 9, 10, 11, 12, 13] c = false := by rw [has_spaces, inR_f (a := 32) (b := 32) (c := c) (by omega), inR_f (a := 9) (b := 13) (c := c) (by omega)]; rfl
  have v_blanks : has [32, 9] c = false := by rw [has_blanks, inR_f (a := 32) (b := 32) (c := c) (by omega), inR_f (a := 9) (b := 9) (c := c) (by omega)]; rfl
  have v_xdigits : has [48, 49, 50, 51, 52, 53, 54, 55, 56, 57, 97, 98, 99, 100, 101, 102, 65, 66, 67, 68, 69, 70] c = false := by rw [has_xdigits, inR_f (a := 48) (b := 57) (c := c) (by omega), inR_f (a := 97) (b := 102) (c := c) (by omega), inR_f (a := 65) (b := 70) (c := c) (by omega)]; rfl
  have e32 : (c == 32) = false := by simp; omega
  go_enter Try.func12, Try.ntmps12
  go_wp2_with (go_at_call 22; refine (has_any _ _ _ (by decide)).mono ?_; rintro e w' ⟨rfl, rfl⟩)
  all_goals
    go_ret2
    exact ⟨ret_cls (by rw [cls_10 _ _ (by omega) (by omega)]; simp only [*, reduceIte, Bool.false_eq_true]; first | done | (simp; done) | (simp; omega)), rfl⟩

set_option maxHeartbeats 1000000 in
theorem model_11 (s : ByteArray) (c : Int) (h1 : 97 ≤ c) (h2 : c ≤ 102) (w : World) :
    Calls Try.prog 12 #[.string s, .int .u8 c] w fun e w' => e = .returned (.tuple #[.bool (cls s.toList c).1, .bool (cls s.toList c).2]) ∧ w' = w := by
  have v_lowers : has [97, 98, 99, 100, 101, 102, 103, 104, 105, 106, 107, 108, 109, 110, 111, 112, 113, 114, 115, 116, 117, 118, 119, 120, 121, 122] c = true := by rw [has_lowers, inR_t (a := 97) (b := 122) (c := c) (by omega)]
  have v_uppers : has [65, 66, 67, 68, 69, 70, 71, 72, 73, 74, 75, 76, 77, 78, 79, 80, 81, 82, 83, 84, 85, 86, 87, 88, 89, 90] c = false := by rw [has_uppers, inR_f (a := 65) (b := 90) (c := c) (by omega)]
  have v_digits : has [48, 49, 50, 51, 52, 53, 54, 55, 56, 57] c = false := by rw [has_digits, inR_f (a := 48) (b := 57) (c := c) (by omega)]
  have v_puncts : has [33, 34, 35, 36, 37, 38, 39, 40, 41, 42, 43, 44, 45, 46, 47, 58, 59, 60, 61, 62, 63, 64, 91, 92, 93, 94, 95, 96, 123, 124, 125, 126] c = false := by rw [has_puncts, inR_f (a := 33) (b := 47) (c := c) (by omega), inR_f (a := 58) (b := 64) (c := c) (by omega), inR_f (a := 91) (b := 96) (c := c) (by omega), inR_f (a := 123) (b := 126) (c := c) (by omega)]; rfl
  have v_spaces : has [32, 9, 10, 11, 12, 13] c = false := by rw [has_spaces, inR_f (a := 32) (b := 32) (c := c) (by omega), inR_f (a := 9) (b := 13) (c := c) (by omega)]; rfl
  have v_blanks : has [32, 9] c = false := by rw [has_blanks, inR_f (a := 32) (b := 32) (c := c) (by omega), inR_f (a := 9) (b := 9) (c := c) (by omega)]; rfl
  have v_xdigits : has [48, 49, 50, 51, 52, 53, 54, 55, 56, 57, 97, 98, 99, 100, 101, 102, 65, 66, 67, 68, 69, 70] c = true := by rw [has_xdigits, inR_f (a := 48) (b := 57) (c := c) (by omega), inR_t (a := 97) (b := 102) (c := c) (by omega), inR_f (a := 65) (b := 70) (c := c) (by omega)]; rfl
  have e32 : (c == 32) = false := by simp; omega
  go_enter Try.func12, Try.ntmps12
  go_wp2_with (go_at_call 22; refine (has_any _ _ _ (by decide)).mono ?_; rintro e w' ⟨rfl, rfl⟩)
  all_goals
    go_ret2
    exact ⟨ret_cls (by rw [cls_11 _ _ (by omega) (by omega)]; simp only [*, reduceIte, Bool.false_eq_true]; first | done | (simp; done) | (simp; omega)), rfl⟩

set_option maxHeartbeats 1000000 in
theorem model_12 (s : ByteArray) (c : Int) (h1 : 103 ≤ c) (h2 : c ≤ 122) (w : World) :
    Calls Try.prog 12 #[.string s, .int .u8 c] w fun e w' => e = .returned (.tuple #[.bool (cls s.toList c).1, .bool (cls s.toList c).2]) ∧ w' = w := by
  have v_lowers : has [97, 98, 99, 100, 101, 102, 103, 104, 105, 106, 107, 108, 109, 110, 111, 112, 113, 114, 115, 116, 117, 118, 119, 120, 121, 122] c = true := by rw [has_lowers, inR_t (a := 97) (b := 122) (c := c) (by omega)]
  have v_uppers : has [65, 66, 67, 68, 69, 70, 71, 72, 73, 74, 75, 76, 77, 78, 79, 80, 81, 82, 83, 84, 85, 86, 87, 88, 89, 90] c = false := by rw [has_uppers, inR_f (a := 65) (b := 90) (c := c) (by omega)]
  have v_digits : has [48, 49, 50, 51, 52, 53, 54, 55, 56, 57] c = false := by rw [has_digits, inR_f (a := 48) (b := 57) (c := c) (by omega)]
  have v_puncts : has [33, 34, 35, 36, 37, 38, 39, 40, 41, 42, 43, 44, 45, 46, 47, 58, 59, 60, 61, 62, 63, 64, 91, 92, 93, 94, 95, 96, 123, 124, 125, 126] c = false := by rw [has_puncts, inR_f (a := 33) (b := 47) (c := c) (by omega), inR_f (a := 58) (b := 64) (c := c) (by omega), inR_f (a := 91) (b := 96) (c := c) (by omega), inR_f (a := 123) (b := 126) (c := c) (by omega)]; rfl
  have v_spaces : has [32, 9, 10, 11, 12, 13] c = false := by rw [has_spaces, inR_f (a := 32) (b := 32) (c := c) (by omega), inR_f (a := 9) (b := 13) (c := c) (by omega)]; rfl
  have v_blanks : has [32, 9] c = false := by rw [has_blanks, inR_f (a := 32) (b := 32) (c := c) (by omega), inR_f (a := 9) (b := 9) (c := c) (by omega)]; rfl
  have v_xdigits : has [48, 49, 50, 51, 52, 53, 54, 55, 56, 57, 97, 98, 99, 100, 101, 102, 65, 66, 67, 68, 69, 70] c = false := by rw [has_xdigits, inR_f (a := 48) (b := 57) (c := c) (by omega), inR_f (a := 97) (b := 102) (c := c) (by omega), inR_f (a := 65) (b := 70) (c := c) (by omega)]; rfl
  have e32 : (c == 32) = false := by simp; omega
  go_enter Try.func12, Try.ntmps12
  go_wp2_with (go_at_call 22; refine (has_any _ _ _ (by decide)).mono ?_; rintro e w' ⟨rfl, rfl⟩)
  all_goals
    go_ret2
    exact ⟨ret_cls (by rw [cls_12 _ _ (by omega) (by omega)]; simp only [*, reduceIte, Bool.false_eq_true]; first | done | (simp; done) | (simp; omega)), rfl⟩

set_option maxHeartbeats 1000000 in
theorem model_13 (s : ByteArray) (c : Int) (h1 : 123 ≤ c) (h2 : c ≤ 126) (w : World) :
    Calls Try.prog 12 #[.string s, .int .u8 c] w fun e w' => e = .returned (.tuple #[.bool (cls s.toList c).1, .bool (cls s.toList c).2]) ∧ w' = w := by
  have v_lowers : has [97, 98, 99, 100, 101, 102, 103, 104, 105, 106, 107, 108, 109, 110, 111, 112, 113, 114, 115, 116, 117, 118, 119, 120, 121, 122] c = false := by rw [has_lowers, inR_f (a := 97) (b := 122) (c := c) (by omega)]
  have v_uppers : has [65, 66, 67, 68, 69, 70, 71, 72, 73, 74, 75, 76, 77, 78, 79, 80, 81, 82, 83, 84, 85, 86, 87, 88, 89, 90] c = false := by rw [has_uppers, inR_f (a := 65) (b := 90) (c := c) (by omega)]
  have v_digits : has [48, 49, 50, 51, 52, 53, 54, 55, 56, 57] c = false := by rw [has_digits, inR_f (a := 48) (b := 57) (c := c) (by omega)]
  have v_puncts : has [33, 34, 35, 36, 37, 38, 39, 40, 41, 42, 43, 44, 45, 46, 47, 58, 59, 60, 61, 62, 63, 64, 91, 92, 93, 94, 95, 96, 123, 124, 125, 126] c = true := by rw [has_puncts, inR_f (a := 33) (b := 47) (c := c) (by omega), inR_f (a := 58) (b := 64) (c := c) (by omega), inR_f (a := 91) (b := 96) (c := c) (by omega), inR_t (a := 123) (b := 126) (c := c) (by omega)]; rfl
  have v_spaces : has [32, 9, 10, 11, 12, 13] c = false := by rw [has_spaces, inR_f (a := 32) (b := 32) (c := c) (by omega), inR_f (a := 9) (b := 13) (c := c) (by omega)]; rfl
  have v_blanks : has [32, 9] c = false := by rw [has_blanks, inR_f (a := 32) (b := 32) (c := c) (by omega), inR_f (a := 9) (b := 9) (c := c) (by omega)]; rfl
  have v_xdigits : has [48, 49, 50, 51, 52, 53, 54, 55, 56, 57, 97, 98, 99, 100, 101, 102, 65, 66, 67, 68, 69, 70] c = false := by rw [has_xdigits, inR_f (a := 48) (b := 57) (c := c) (by omega), inR_f (a := 97) (b := 102) (c := c) (by omega), inR_f (a := 65) (b := 70) (c := c) (by omega)]; rfl
  have e32 : (c == 32) = false := by simp; omega
  go_enter Try.func12, Try.ntmps12
  go_wp2_with (go_at_call 22; refine (has_any _ _ _ (by decide)).mono ?_; rintro e w' ⟨rfl, rfl⟩)
  all_goals
    go_ret2
    exact ⟨ret_cls (by rw [cls_13 _ _ (by omega) (by omega)]; simp only [*, reduceIte, Bool.false_eq_true]; first | done | (simp; done) | (simp; omega)), rfl⟩

set_option maxHeartbeats 1000000 in
theorem model_14 (s : ByteArray) (c : Int) (h1 : 127 ≤ c) (h2 : c ≤ 127) (w : World) :
    Calls Try.prog 12 #[.string s, .int .u8 c] w fun e w' => e = .returned (.tuple #[.bool (cls s.toList c).1, .bool (cls s.toList c).2]) ∧ w' = w := by
  have v_lowers : has [97, 98, 99, 100, 101, 102, 103, 104, 105, 106, 107, 108, 109, 110, 111, 112, 113, 114, 115, 116, 117, 118, 119, 120, 121, 122] c = false := by rw [has_lowers, inR_f (a := 97) (b := 122) (c := c) (by omega)]
  have v_uppers : has [65, 66, 67, 68, 69, 70, 71, 72, 73, 74, 75, 76, 77, 78, 79, 80, 81, 82, 83, 84, 85, 86, 87, 88, 89, 90] c = false := by rw [has_uppers, inR_f (a := 65) (b := 90) (c := c) (by omega)]
  have v_digits : has [48, 49, 50, 51, 52, 53, 54, 55, 56, 57] c = false := by rw [has_digits, inR_f (a := 48) (b := 57) (c := c) (by omega)]
  have v_puncts : has [33, 34, 35, 36, 37, 38, 39, 40, 41, 42, 43, 44, 45, 46, 47, 58, 59, 60, 61, 62, 63, 64, 91, 92, 93, 94, 95, 96, 123, 124, 125, 126] c = false := by rw [has_puncts, inR_f (a := 33) (b := 47) (c := c) (by omega), inR_f (a := 58) (b := 64) (c := c) (by omega), inR_f (a := 91) (b := 96) (c := c) (by omega), inR_f (a := 123) (b := 126) (c := c) (by omega)]; rfl
  have v_spaces : has [32, 9, 10, 11, 12, 13] c = false := by rw [has_spaces, inR_f (a := 32) (b := 32) (c := c) (by omega), inR_f (a := 9) (b := 13) (c := c) (by omega)]; rfl
  have v_blanks : has [32, 9] c = false := by rw [has_blanks, inR_f (a := 32) (b := 32) (c := c) (by omega), inR_f (a := 9) (b := 9) (c := c) (by omega)]; rfl
  have v_xdigits : has [48, 49, 50, 51, 52, 53, 54, 55, 56, 57, 97, 98, 99, 100, 101, 102, 65, 66, 67, 68, 69, 70] c = false := by rw [has_xdigits, inR_f (a := 48) (b := 57) (c := c) (by omega), inR_f (a := 97) (b := 102) (c := c) (by omega), inR_f (a := 65) (b := 70) (c := c) (by omega)]; rfl
  have e32 : (c == 32) = false := by simp; omega
  go_enter Try.func12, Try.ntmps12
  go_wp2_with (go_at_call 22; refine (has_any _ _ _ (by decide)).mono ?_; rintro e w' ⟨rfl, rfl⟩)
  all_goals
    go_ret2
    exact ⟨ret_cls (by rw [cls_14 _ _ (by omega) (by omega)]; simp only [*, reduceIte, Bool.false_eq_true]; first | done | (simp; done) | (simp; omega)), rfl⟩

set_option maxHeartbeats 1000000 in
theorem model_15 (s : ByteArray) (c : Int) (h1 : 128 ≤ c) (h2 : c ≤ 255) (w : World) :
    Calls Try.prog 12 #[.string s, .int .u8 c] w fun e w' => e = .returned (.tuple #[.bool (cls s.toList c).1, .bool (cls s.toList c).2]) ∧ w' = w := by
  have v_lowers : has [97, 98, 99, 100, 101, 102, 103, 104, 105, 106, 107, 108, 109, 110, 111, 112, 113, 114, 115, 116, 117, 118, 119, 120, 121, 122] c = false := by rw [has_lowers, inR_f (a := 97) (b := 122) (c := c) (by omega)]
  have v_uppers : has [65, 66, 67, 68, 69, 70, 71, 72, 73, 74, 75, 76, 77, 78, 79, 80, 81, 82, 83, 84, 85, 86, 87, 88, 89, 90] c = false := by rw [has_uppers, inR_f (a := 65) (b := 90) (c := c) (by omega)]
  have v_digits : has [48, 49, 50, 51, 52, 53, 54, 55, 56, 57] c = false := by rw [has_digits, inR_f (a := 48) (b := 57) (c := c) (by omega)]
  have v_puncts : has [33, 34, 35, 36, 37, 38, 39, 40, 41, 42, 43, 44, 45, 46, 47, 58, 59, 60, 61, 62, 63, 64, 91, 92, 93, 94, 95, 96, 123, 124, 125, 126] c = false := by rw [has_puncts, inR_f (a := 33) (b := 47) (c := c) (by omega), inR_f (a := 58) (b := 64) (c := c) (by omega), inR_f (a := 91) (b := 96) (c := c) (by omega), inR_f (a := 123) (b := 126) (c := c) (by omega)]; rfl
  have v_spaces : has [32, 9, 10, 11, 12, 13] c = false := by rw [has_spaces, inR_f (a := 32) (b := 32) (c := c) (by omega), inR_f (a := 9) (b := 13) (c := c) (by omega)]; rfl
  have v_blanks : has [32, 9] c = false := by rw [has_blanks, inR_f (a := 32) (b := 32) (c := c) (by omega), inR_f (a := 9) (b := 9) (c := c) (by omega)]; rfl
  have v_xdigits : has [48, 49, 50, 51, 52, 53, 54, 55, 56, 57, 97, 98, 99, 100, 101, 102, 65, 66, 67, 68, 69, 70] c = false := by rw [has_xdigits, inR_f (a := 48) (b := 57) (c := c) (by omega), inR_f (a := 97) (b := 102) (c := c) (by omega), inR_f (a := 65) (b := 70) (c := c) (by omega)]; rfl
  have e32 : (c == 32) = false := by simp; omega
  go_enter Try.func12, Try.ntmps12
  go_wp2_with (go_at_call 22; refine (has_any _ _ _ (by decide)).mono ?_; rintro e w' ⟨rfl, rfl⟩)
  all_goals
    go_ret2
    exact ⟨ret_cls (by rw [cls_15 _ _ (by omega) (by omega)]; simp only [*, reduceIte, Bool.false_eq_true]; first | done | (simp; done) | (simp; omega)), rfl⟩

theorem model_any (s : ByteArray) (c : Int) (h1 : 0 ≤ c) (h2 : c ≤ 255) (w : World) :
    Calls Try.prog 12 #[.string s, .int .u8 c] w fun e w' => e = .returned (.tuple #[.bool (cls s.toList c).1, .bool (cls s.toList c).2]) ∧ w' = w := by
  by_cases g0 : c ≤ 8
  · exact model_0 s c (by omega) g0 w
  by_cases g1 : c ≤ 9
  · exact model_1 s c (by omega) g1 w
  by_cases g2 : c ≤ 13
  · exact model_2 s c (by omega) g2 w
  by_cases g3 : c ≤ 31
  · exact model_3 s c (by omega) g3 w
  by_cases g4 : c ≤ 32
  · exact model_4 s c (by omega) g4 w
  by_cases g5 : c ≤ 47
  · exact model_5 s c (by omega) g5 w
  by_cases g6 : c ≤ 57
  · exact model_6 s c (by omega) g6 w
  by_cases g7 : c ≤ 64
  · exact model_7 s c (by omega) g7 w
  by_cases g8 : c ≤ 70
  · exact model_8 s c (by omega) g8 w
  by_cases g9 : c ≤ 90
  · exact model_9 s c (by omega) g9 w
  by_cases g10 : c ≤ 96
  · exact model_10 s c (by omega) g10 w
  by_cases g11 : c ≤ 102
  · exact model_11 s c (by omega) g11 w
  by_cases g12 : c ≤ 122
  · exact model_12 s c (by omega) g12 w
  by_cases g13 : c ≤ 126
  · exact model_13 s c (by omega) g13 w
  by_cases g14 : c ≤ 127
  · exact model_14 s c (by omega) g14 w
  exact model_15 s c (by omega) h2 w

end Go.Proofs.Qxb6601775a
