/- The walk of FnSubsetOfIsPartialOrder (function 3). -/
import Derived.Test.Qxb6602474aBase
namespace Go.Proofs.Qxb6602474a
open Go.ChangeShapes Go.WideShapes Go.ChangeAt Go.RowKit Go.Deep

theorem Words.some {B : Nat} {w : World} {a : Option Addr} {n : Nat} {z : Nat → Int} (h : Words B w a n z) (hn : 0 < n) : ∃ g, a = Option.some ⟨g, 0, none⟩ ∧ ∀ i, i < n → w.cell? ⟨g, i, none⟩ = Option.some (.int .u64 (z i)) := by
  rcases h with ⟨_, h⟩ | ⟨g, ha, _, hr⟩
  · omega
  · exact ⟨g, ha, fun i hi => hr.cell hi⟩

theorem bytes_ok (a0 a1 a2 : Option Addr) (n0 c0 n1 c1 n2 c2 : Nat) (h : n0 + n1 + n2 ≤ 1048576) (w : World) :
    Calls Try.prog 5 #[.slice a0 n0 c0, .slice a1 n1 c1, .slice a2 n2 c2] w fun e w' => e = .returned (.bool true) ∧ w' = w := by
  go_enter Try.func5, Try.ntmps5
  go_wp2
  go_ret
  exact ⟨rfl, rfl⟩

set_option maxHeartbeats 1000000 in
theorem order_core (a0 a1 a2 : Option Addr) (n0 c0 n1 c1 n2 c2 : Nat) (z0 z1 z2 : Nat → Int) (w : World) (S0 : Src w a0 n0 z0) (S1 : Src w a1 n1 z1) (S2 : Src w a2 n2 z2)
    (f0 : ∀ i, W64 (z0 i)) (f1 : ∀ i, W64 (z1 i)) (f2 : ∀ i, W64 (z2 i)) (h0 : n0 ≤ 32768) (h1 : n1 ≤ 32768) (h2 : n2 ≤ 32768) (h01 : n0 ≤ n1) (h12 : n1 ≤ n2) :
    Calls Try.prog 3 #[.slice a0 n0 c0, .slice a1 n1 c1, .slice a2 n2 c2] w fun e w' => e = .returned (.bool true) ∧ Below w.heap.size w w' := by
  have r0 := sub_refl n0 z0 f0
  have r1 := sub_refl n1 z1 f1
  have r2 := sub_refl n2 z2 f2
  go_enter Try.func3, Try.ntmps3
  go_wp2_with (go_at_call 5; refine (bytes_ok _ _ _ _ _ _ _ _ _ (by omega) _).mono ?_; rintro e w' ⟨rfl, rfl⟩)
  refine (clone_any _ a0 n0 c0 z0 (by omega) S0).mono ?_
  rintro e w1 ⟨b0, rfl, W0, B1⟩
  replace S1 := S1.kept B1
  replace S2 := S2.kept B1
  clear S0
  go_wp2_with fail
  refine (clone_any _ a1 n1 c1 z1 (by omega) S1).mono ?_
  rintro e w2 ⟨b1, rfl, W1, B2⟩
  replace S2 := S2.kept B2
  replace W0 := W0.kept B2
  replace B2 := B1.trans (B2.mono B1.size)
  clear S1 B1
  go_wp2_with fail
  refine (clone_any _ a2 n2 c2 z2 (by omega) S2).mono ?_
  rintro e w3 ⟨b2, rfl, W2, B3⟩
  replace W0 := W0.kept B3
  replace W1 := W1.kept B3
  replace B3 := B2.trans (B3.mono B2.size)
  clear S2 B2
  go_wp2_with fail
  refine (zzsubset_any _ b0 b0 n0 n0 n0 n0 z0 z0 (by omega) (by omega) (by omega) W0.src W0.src).mono ?_
  rintro e w4 ⟨rfl, B4⟩
  replace W0 := W0.kept B4
  replace W1 := W1.kept B4
  replace W2 := W2.kept B4
  replace B4 := B3.trans (B4.mono B3.size)
  clear B3
  go_wp2_with fail
  refine (zzsubset_any _ b1 b1 n1 n1 n1 n1 z1 z1 (by omega) (by omega) (by omega) W1.src W1.src).mono ?_
  rintro e w5 ⟨rfl, B5⟩
  replace W0 := W0.kept B5
  replace W1 := W1.kept B5
  replace W2 := W2.kept B5
  replace B5 := B4.trans (B5.mono B4.size)
  clear B4
  go_wp2_with fail
  refine (zzsubset_any _ b2 b2 n2 n2 n2 n2 z2 z2 (by omega) (by omega) (by omega) W2.src W2.src).mono ?_
  rintro e w6 ⟨rfl, B6⟩
  replace W0 := W0.kept B6
  replace W1 := W1.kept B6
  replace W2 := W2.kept B6
  replace B6 := B5.trans (B6.mono B5.size)
  clear B5
  go_wp2_with fail
  refine (zzsubset_any _ b0 b1 n0 n0 n1 n1 z0 z1 (by omega) (by omega) (by omega) W0.src W1.src).mono ?_
  rintro e w7 ⟨rfl, B7⟩
  replace W0 := W0.kept B7
  replace W1 := W1.kept B7
  replace W2 := W2.kept B7
  replace B7 := B6.trans (B7.mono B6.size)
  clear B6
  cases hst : sub n0 z0 z1 with
  | false =>
    by_cases e01 : n0 = n1
    · have e01' : ((n0 : Int) == (n1 : Int)) = true := by simp; omega
      clear e01
      go_wp2
      go_ret
      exact ⟨rfl, B7⟩
    · have e01' : ((n0 : Int) == (n1 : Int)) = false := by simp; omega
      clear e01
      go_wp2
      go_ret
      exact ⟨rfl, B7⟩
  | true =>
    by_cases e01 : n0 = n1
    · subst e01
      go_wp2_with fail
      refine (zzsubset_any _ b1 b0 n0 n0 n0 n0 z1 z0 (by omega) (by omega) (by omega) W1.src W0.src).mono ?_
      rintro e w8 ⟨rfl, B8⟩
      replace W0 := W0.kept B8
      replace W1 := W1.kept B8
      replace W2 := W2.kept B8
      replace B8 := B7.trans (B8.mono B7.size)
      clear B7
      cases hts : sub n0 z1 z0 with
      | false =>
        go_wp2_with fail
        refine (zzsubset_any _ b1 b2 n0 n0 n2 n2 z1 z2 (by omega) (by omega) (by omega) W1.src W2.src).mono ?_
        rintro e w9 ⟨rfl, B9⟩
        replace W0 := W0.kept B9
        replace W1 := W1.kept B9
        replace W2 := W2.kept B9
        replace B9 := B8.trans (B9.mono B8.size)
        clear B8
        cases htu : sub n0 z1 z2 with
        | false =>
          go_wp2
          go_ret
          exact ⟨rfl, B9⟩
        | true =>
          have hsu : sub n0 z0 z2 = true := sub_trans f0 f1 f2 (by omega) hst htu
          go_wp2_with fail
          refine (zzsubset_any _ b0 b2 n0 n0 n2 n2 z0 z2 (by omega) (by omega) (by omega) W0.src W2.src).mono ?_
          rintro e w10 ⟨rfl, B10⟩
          replace W0 := W0.kept B10
          replace W1 := W1.kept B10
          replace W2 := W2.kept B10
          replace B10 := B9.trans (B10.mono B9.size)
          clear B9
          go_wp2
          go_ret
          exact ⟨rfl, B10⟩
      | true =>
        have HE : Hid (∀ i, i < n0 → z0 i = z1 i) := sub_anti f0 f1 hst hts
        go_wp2
        go_loopw [8] (fun i wr => ∃ k j : Nat, k ≤ n0 ∧ i = .int .i64 k ∧ wr = w8.drewN j) (fun i _ => n0 - (intOf i).toNat)
        case atStart => exact ⟨0, 0, Nat.zero_le _, rfl, rfl⟩
        case round =>
          obtain ⟨k, j, hk, rfl, rfl⟩ := hrel
          by_cases hlt : k < n0
          · obtain ⟨g0, rfl, q0⟩ := W0.some (by omega)
            obtain ⟨g1, rfl, q1⟩ := W1.some (by omega)
            have p0 := q0 k hlt
            have p1 := q1 k hlt
            have l1 : (k : Int) < (n0 : Int) := by omega
            have hne : (z0 k != z1 k) = false := by rw [HE.out k hlt]; simp
            clear q0 q1
            go_wp2
            go_quiet (fail)
            go_wp2
            go_roundw
            case rel => exact ⟨k + 1, _, by omega, by go_num, rfl⟩
            case measure => simp [intOf]; omega
          · replace W0 := W0.kept (below_drawn w8 j)
            replace W1 := W1.kept (below_drawn w8 j)
            replace W2 := W2.kept (below_drawn w8 j)
            replace B8 := below_drewN B8 j
            go_wp2_with fail
            refine (zzsubset_any _ b1 b2 n0 n0 n2 n2 z1 z2 (by omega) (by omega) (by omega) W1.src W2.src).mono ?_
            rintro e w9 ⟨rfl, B9⟩
            replace W0 := W0.kept B9
            replace W1 := W1.kept B9
            replace W2 := W2.kept B9
            replace B9 := B8.trans (B9.mono B8.size)
            clear B8
            cases htu : sub n0 z1 z2 with
            | false =>
              go_wp2
              go_ret
              exact ⟨rfl, B9⟩
            | true =>
              have hsu : sub n0 z0 z2 = true := sub_trans f0 f1 f2 (by omega) hst htu
              go_wp2_with fail
              refine (zzsubset_any _ b0 b2 n0 n0 n2 n2 z0 z2 (by omega) (by omega) (by omega) W0.src W2.src).mono ?_
              rintro e w10 ⟨rfl, B10⟩
              replace W0 := W0.kept B10
              replace W1 := W1.kept B10
              replace W2 := W2.kept B10
              replace B10 := B9.trans (B10.mono B9.size)
              clear B9
              go_wp2
              go_ret
              exact ⟨rfl, B10⟩
    · have e01' : ((n0 : Int) == (n1 : Int)) = false := by simp; omega
      clear e01
      go_wp2_with fail
      refine (zzsubset_any _ b1 b2 n1 n1 n2 n2 z1 z2 (by omega) (by omega) (by omega) W1.src W2.src).mono ?_
      rintro e w8 ⟨rfl, B8⟩
      replace W0 := W0.kept B8
      replace W1 := W1.kept B8
      replace W2 := W2.kept B8
      replace B8 := B7.trans (B8.mono B7.size)
      clear B7
      cases htu : sub n1 z1 z2 with
      | false =>
        go_wp2
        go_ret
        exact ⟨rfl, B8⟩
      | true =>
        have hsu : sub n0 z0 z2 = true := sub_trans f0 f1 f2 (by omega) hst htu
        go_wp2_with fail
        refine (zzsubset_any _ b0 b2 n0 n0 n2 n2 z0 z2 (by omega) (by omega) (by omega) W0.src W2.src).mono ?_
        rintro e w9 ⟨rfl, B9⟩
        replace W0 := W0.kept B9
        replace W1 := W1.kept B9
        replace W2 := W2.kept B9
        replace B9 := B8.trans (B9.mono B8.size)
        clear B8
        go_wp2
        go_ret
        exact ⟨rfl, B9⟩

set_option maxHeartbeats 1000000 in
theorem order_early (a0 a1 a2 : Option Addr) (n0 c0 n1 c1 n2 c2 : Nat) (w : World) (m0 : n0 ≤ 9223372036854775807) (m1 : n1 ≤ 9223372036854775807) (m2 : n2 ≤ 9223372036854775807)
    (h : 32768 < n0 ∨ 32768 < n1 ∨ 32768 < n2 ∨ n1 < n0 ∨ n2 < n1) :
    Calls Try.prog 3 #[.slice a0 n0 c0, .slice a1 n1 c1, .slice a2 n2 c2] w fun e w' => e = .returned (.bool true) ∧ w' = w := by
  rcases h with h | h | h | h | h
  all_goals
    go_enter Try.func3, Try.ntmps3
    go_wp2
    all_goals
      go_ret
      exact ⟨rfl, rfl⟩
end Go.Proofs.Qxb6602474a
