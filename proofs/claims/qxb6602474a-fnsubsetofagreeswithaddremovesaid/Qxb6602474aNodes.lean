/- The contracts of add (13, 9), remove (14, 10), has (15, 11). -/
import Derived.Test.Qxb6602474aBase
import Derived.Test.Qxb6602474aBits
import Derived.RegionTactic
import Derived.ChangeAlike
namespace Go.Proofs.Qxb6602474a
open Go.ChangeShapes Go.WideShapes Go.ChangeAt Go.RowKit Go.Deep

theorem turned {w : World} {g n q : Nat} {z : Nat → Int} (h : w.rowIs g 26 n (fun i => .int .u64 (z i))) (v : Int) : (w.setCell ⟨g, q, none⟩ (.int .u64 v)).drew.rowIs g 26 n (fun i => .int .u64 (turn z q v i)) :=
  ((h.set q _).congr (fun i _ => by unfold turn; split <;> rfl)).drew
theorem below_turned {B : Nat} {w : World} {g q : Nat} (hB : B ≤ g) (v : Value) : Below B w (w.setCell ⟨g, q, none⟩ v).drew := ((Below.refl _ _).setCell (p := ⟨g, q, none⟩) hB v).drew

set_option maxHeartbeats 400000 in
theorem add_row (w : World) (g n c : Nat) (i x : Int) (q : Nat) (hi : 0 ≤ i) (hq : i / 64 = q) (hn : (q : Int) < n) (hm : i ≤ 1000000000)
    (hx : w.cell? ⟨g, q, none⟩ = some (.int .u64 x)) (hf : w.frozen? ⟨g, q, none⟩ = false) :
    Calls Try.prog 13 #[.slice (some ⟨g, 0, none⟩) n c, .int .i64 i] w fun e w' => e = .returned (.tuple #[]) ∧ w' = (w.setCell ⟨g, q, none⟩ (.int .u64 (addW x i))).drew := by
  go_enter Try.func13, Try.ntmps13
  go_wp2
  go_region
  all_goals (go_end0; exact ⟨rfl, rfl⟩)
set_option maxHeartbeats 400000 in
theorem remove_row (w : World) (g n c : Nat) (i x : Int) (q : Nat) (hi : 0 ≤ i) (hq : i / 64 = q) (hn : (q : Int) < n) (hm : i ≤ 1000000000)
    (hx : w.cell? ⟨g, q, none⟩ = some (.int .u64 x)) (hf : w.frozen? ⟨g, q, none⟩ = false) :
    Calls Try.prog 14 #[.slice (some ⟨g, 0, none⟩) n c, .int .i64 i] w fun e w' => e = .returned (.tuple #[]) ∧ w' = (w.setCell ⟨g, q, none⟩ (.int .u64 (remW x i))).drew := by
  go_enter Try.func14, Try.ntmps14
  go_wp2
  go_region
  all_goals (go_end0; exact ⟨rfl, rfl⟩)
set_option maxHeartbeats 400000 in
theorem has_row (w : World) (g n c : Nat) (i x : Int) (q : Nat) (hi : 0 ≤ i) (hq : i / 64 = q) (hn : (q : Int) < n) (hm : i ≤ 1000000000)
    (hx : w.cell? ⟨g, q, none⟩ = some (.int .u64 x)) :
    Calls Try.prog 15 #[.slice (some ⟨g, 0, none⟩) n c, .int .i64 i] w fun e w' => e = .returned (.bool (hasW x i)) ∧ ∃ j, w' = w.drewN j := by
  go_enter Try.func15, Try.ntmps15
  go_wp2
  go_quiet (fail)
  go_wp2
  go_ret
  exact ⟨rfl, _, rfl⟩

/-- 'add' on a slice of the call's own. -/
theorem add_any {B : Nat} (w : World) (a : Option Addr) (n c : Nat) (z : Nat → Int) (i : Int) (q : Nat) (hW : Words B w a n z) (hi : 0 ≤ i) (hq : i / 64 = q) (hn : q < n) (hm : i ≤ 1000000000) :
    Calls Try.prog 13 #[.slice a n c, .int .i64 i] w fun e w' => e = .returned (.tuple #[]) ∧ Words B w' a n (zAdd z q i) ∧ Below B w w' := by
  rcases hW with ⟨_, h⟩ | ⟨g, rfl, hB, hr⟩
  · omega
  refine (add_row w g n c i (z q) q hi hq (by omega) hm (hr.cell hn) (hr.frozen q)).mono ?_
  rintro e w' ⟨rfl, rfl⟩
  exact ⟨rfl, .inr ⟨g, rfl, hB, turned hr _⟩, below_turned hB _⟩
theorem remove_any {B : Nat} (w : World) (a : Option Addr) (n c : Nat) (z : Nat → Int) (i : Int) (q : Nat) (hW : Words B w a n z) (hi : 0 ≤ i) (hq : i / 64 = q) (hn : q < n) (hm : i ≤ 1000000000) :
    Calls Try.prog 14 #[.slice a n c, .int .i64 i] w fun e w' => e = .returned (.tuple #[]) ∧ Words B w' a n (zRem z q i) ∧ Below B w w' := by
  rcases hW with ⟨_, h⟩ | ⟨g, rfl, hB, hr⟩
  · omega
  refine (remove_row w g n c i (z q) q hi hq (by omega) hm (hr.cell hn) (hr.frozen q)).mono ?_
  rintro e w' ⟨rfl, rfl⟩
  exact ⟨rfl, .inr ⟨g, rfl, hB, turned hr _⟩, below_turned hB _⟩
theorem has_any {B : Nat} (w : World) (a : Option Addr) (n c : Nat) (z : Nat → Int) (i : Int) (q : Nat) (hW : Words B w a n z) (hi : 0 ≤ i) (hq : i / 64 = q) (hn : q < n) (hm : i ≤ 1000000000) :
    Calls Try.prog 15 #[.slice a n c, .int .i64 i] w fun e w' => e = .returned (.bool (hasW (z q) i)) ∧ Below w.heap.size w w' := by
  rcases hW with ⟨_, h⟩ | ⟨g, rfl, hB, hr⟩
  · omega
  refine (has_row w g n c i (z q) q hi hq (by omega) hm (hr.cell hn)).mono ?_
  rintro e w' ⟨rfl, j, rfl⟩
  exact ⟨rfl, below_drawn w j⟩

set_option maxHeartbeats 400000 in
theorem zzadd_any {B : Nat} (w : World) (a : Option Addr) (n c : Nat) (z : Nat → Int) (i : Int) (q : Nat) (hW : Words B w a n z) (hi : 0 ≤ i) (hq : i / 64 = q) (hn : q < n) (hm : i ≤ 1000000000) :
    Calls Try.prog 9 #[.slice a n c, .int .i64 i] w fun e w' => e = .returned (.tuple #[]) ∧ Words B w' a n (zAdd z q i) ∧ Below B w w' := by
  have K := add_any w a n c z i q hW hi hq hn hm
  clear hq
  go_enter Try.func9, Try.ntmps9
  go_wp2_with fail
  refine K.mono ?_
  rintro e w' ⟨rfl, h1, h2⟩
  go_wp2
  go_end0
  exact ⟨rfl, h1, h2⟩
set_option maxHeartbeats 400000 in
theorem zzremove_any {B : Nat} (w : World) (a : Option Addr) (n c : Nat) (z : Nat → Int) (i : Int) (q : Nat) (hW : Words B w a n z) (hi : 0 ≤ i) (hq : i / 64 = q) (hn : q < n) (hm : i ≤ 1000000000) :
    Calls Try.prog 10 #[.slice a n c, .int .i64 i] w fun e w' => e = .returned (.tuple #[]) ∧ Words B w' a n (zRem z q i) ∧ Below B w w' := by
  have K := remove_any w a n c z i q hW hi hq hn hm
  clear hq
  go_enter Try.func10, Try.ntmps10
  go_wp2_with fail
  refine K.mono ?_
  rintro e w' ⟨rfl, h1, h2⟩
  go_wp2
  go_end0
  exact ⟨rfl, h1, h2⟩
set_option maxHeartbeats 400000 in
theorem zzhas_any {B : Nat} (w : World) (a : Option Addr) (n c : Nat) (z : Nat → Int) (i : Int) (q : Nat) (hW : Words B w a n z) (hi : 0 ≤ i) (hq : i / 64 = q) (hn : q < n) (hm : i ≤ 1000000000) :
    Calls Try.prog 11 #[.slice a n c, .int .i64 i] w fun e w' => e = .returned (.bool (hasW (z q) i)) ∧ Below w.heap.size w w' := by
  have K := has_any w a n c z i q hW hi hq hn hm
  clear hq
  go_enter Try.func11, Try.ntmps11
  go_wp2_with fail
  refine K.mono ?_
  rintro e w' ⟨rfl, h1⟩
  go_wp2
  go_ret
  exact ⟨rfl, h1⟩
end Go.Proofs.Qxb6602474a
