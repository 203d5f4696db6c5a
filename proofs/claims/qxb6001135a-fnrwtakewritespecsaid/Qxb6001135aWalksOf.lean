/- The contracts of viewOf (function 6) and of ZZrwTake (function 7), in the words of Qxb6001135aPlain. -/
import Derived.Test.Qxb6001135aRows
import Derived.Test.Qxb6001135aPlain
import Derived.WalkKit
import Derived.ProofKit
namespace Go.Proofs.Qxb6001135a
open Go.ChangeShapes Go.WideShapes Go.ChangeAt Go.RowKit

set_option maxHeartbeats 400000 in
theorem view_any (s : Int) (_h0 : 0 ≤ s) (w : World) :
    Calls Try.prog 6 #[.int .u64 s] w fun e w' => e = .returned (.agg #[.bool (vW s), .bool (vQ s), .int .u64 (vR s), .bool (vB s)]) ∧
      w' = w.alloc (.cells #[.bool (vW s), .bool (vQ s), .int .u64 (vR s), .bool (vB s)] 24) := by
  go_enter Try.func6, Try.ntmps6
  go_wp2
  exact bodyPost_ret (v := .agg #[.bool (vW s), .bool (vQ s), .int .u64 (vR s), .bool (vB s)]) (by simp [results, Try.results6, go_sem, vW, vQ, vR, vB]) rfl ⟨rfl, rfl⟩
set_option maxHeartbeats 400000 in
theorem take_shared (s : Int) (w : World) :
    Calls Try.prog 7 #[.int .u64 s, .bool true] w fun e w' => e = .returned (.tuple #[.int .u64 (tS s), .bool (tSo s)]) ∧ w' = w := by
  go_enter Try.func7, Try.ntmps7
  go_wp2
  go_ret2
  exact ⟨rfl, rfl⟩
set_option maxHeartbeats 400000 in
theorem take_alone (s : Int) (w : World) :
    Calls Try.prog 7 #[.int .u64 s, .bool false] w fun e w' => e = .returned (.tuple #[.int .u64 (tX s), .bool (tXo s)]) ∧ w' = w := by
  go_enter Try.func7, Try.ntmps7
  go_wp2
  go_ret2
  exact ⟨rfl, rfl⟩
def tN : Bool → Int → Int
  | true, s => tS s
  | false, s => tX s
def tO : Bool → Int → Bool
  | true, s => tSo s
  | false, s => tXo s
/-- Both takes under one head: so that the walk of a law need not guess which it meets. -/
theorem take_any (s : Int) (b : Bool) (w : World) :
    Calls Try.prog 7 #[.int .u64 s, .bool b] w fun e w' => e = .returned (.tuple #[.int .u64 (tN b s), .bool (tO b s)]) ∧ w' = w := by
  cases b with
  | true => exact take_shared s w
  | false => exact take_alone s w
theorem tN_t (s : Int) : tN true s = tS s := rfl
theorem tN_f (s : Int) : tN false s = tX s := rfl
theorem tO_t (s : Int) : tO true s = tSo s := rfl
theorem tO_f (s : Int) : tO false s = tXo s := rfl
end Go.Proofs.Qxb6001135a
