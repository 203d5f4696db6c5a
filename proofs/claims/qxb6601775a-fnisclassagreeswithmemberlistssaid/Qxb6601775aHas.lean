/- The contract of zcHas (function 22): whatever the set and the byte, it answers whether the byte is in the set, and the world stands. -/
import Derived.Test.Qxb6601775aRows
import Derived.WalkKit
import Derived.ProofKit
namespace Go.Proofs.Qxb6601775a
open Go.ChangeShapes Go.WideShapes Go.ChangeAt Go.RowKit

def has (l : List UInt8) (c : Int) : Bool := l.any (fun b => (b.toNat : Int) == c)
theorem take_snoc (s : ByteArray) (k : Nat) (h : k < s.size) : s.data.toList.take (k + 1) = s.data.toList.take k ++ [s[k]] := by
  rw [List.take_succ_eq_append_getElem (by simpa using h)]; rfl
theorem has_snoc (l : List UInt8) (b : UInt8) (c : Int) : has (l ++ [b]) c = (has l c || ((b.toNat : Int) == c)) := by
  simp [has]
theorem has_hit (s : ByteArray) (k : Nat) (h : k < s.size) (c : Int) (hc : ((s[k].toNat : Int) == c) = true) : has s.data.toList c = true := by
  unfold has
  rw [List.any_eq_true]
  exact ⟨s[k], by
    have : s[k] = s.data.toList[k]'(by simpa using h) := rfl
    rw [this]; exact List.getElem_mem _, hc⟩
theorem ret_bool {a b : Bool} (h : a = b) : Ending.returned (.bool a) = .returned (.bool b) := by rw [h]

set_option maxHeartbeats 400000 in
theorem has_any (s : ByteArray) (c : Int) (w : World) (hs : s.size ≤ maxLen) :
    Calls Try.prog 22 #[.string s, .int .u8 c] w fun e w' => e = .returned (.bool (has s.data.toList c)) ∧ w' = w := by
  unfold maxLen at hs
  go_enter Try.func22, Try.ntmps22
  go_wp2
  go_loop [5] (fun i => ∃ k : Nat, k ≤ s.size ∧ i = .int .i64 k ∧ has (s.data.toList.take k) c = false) (fun i => s.size - (intOf i).toNat)
  case atStart => exact ⟨0, Nat.zero_le _, rfl, rfl⟩
  case round =>
    obtain ⟨k, hk, rfl, hn⟩ := hrel
    have HN : Hid (has (s.data.toList.take k) c = false) := hn
    clear hn
    by_cases hlt : k < s.size
    · by_cases hc : ((s[k].toNat : Int) == c) = true
      · go_wp2
        go_ret
        exact ⟨ret_bool (has_hit s k hlt c hc).symm, rfl⟩
      · have hc' : ((s[k].toNat : Int) == c) = false := by simpa using hc
        have HC : Hid (((s[k].toNat : Int) == c) = false) := hc'
        clear hc
        go_wp2
        go_round
        case rel => exact ⟨k + 1, by omega, by go_num, by rw [take_snoc s k hlt, has_snoc, HN.out, HC.out]; rfl⟩
        case measure => simp [intOf]; omega
    · go_wp2
      go_ret
      exact ⟨ret_bool (by
        have h := HN.out
        rw [List.take_of_length_le (by simp; omega)] at h
        exact h.symm), rfl⟩
end Go.Proofs.Qxb6601775a
