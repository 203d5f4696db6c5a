/- The walk of FnSubsetOfAgreesWithAddRemove (function 4). -/
import Derived.Test.Qxb6602474aNodes
namespace Go.Proofs.Qxb6602474a
open Go.ChangeShapes Go.WideShapes Go.ChangeAt Go.RowKit Go.Deep

theorem bytes2_ok (a0 a1 : Option Addr) (n0 c0 n1 c1 : Nat) (i : Int) (h : n0 + n1 ≤ 1048576) (w : World) :
    Calls Try.prog 8 #[.slice a0 n0 c0, .slice a1 n1 c1, .int .i64 i] w fun e w' => e = .returned (.bool true) ∧ w' = w := by
  go_enter Try.func8, Try.ntmps8
  go_wp2
  go_ret
  exact ⟨rfl, rfl⟩

set_option maxHeartbeats 1000000 in
theorem nodes_core (a0 a1 : Option Addr) (n0 c0 n1 c1 : Nat) (i : Int) (q : Nat) (z0 z1 : Nat → Int) (w : World) (S0 : Src w a0 n0 z0) (S1 : Src w a1 n1 z1)
    (f0 : ∀ i, W64 (z0 i)) (f1 : ∀ i, W64 (z1 i)) (h0 : n0 ≤ 65536) (h1 : n1 ≤ 65536) (h01 : n0 ≤ n1) (hi : 0 ≤ i) (hq : i / 64 = q) (hqn : q < n0) :
    Calls Try.prog 4 #[.slice a0 n0 c0, .slice a1 n1 c1, .int .i64 i] w fun e w' => e = .returned (.bool true) ∧ Below w.heap.size w w' := by
  have hm : i ≤ 1000000000 := by omega
  have hlt : i / 64 < n0 := by omega
  have HQ : Hid (i / 64 = (q : Int)) := hq
  have k1 : sub n0 z0 (zAdd z0 q i) = true := sub_grown f0 i
  have k2 : sub n0 (zRem z0 q i) z0 = true := sub_shrunk f0 i
  have k3 : hasW (zAdd z0 q i q) i = true := has_grown f0 i
  have k4 : hasW (zRem z0 q i q) i = false := has_shrunk f0 i
  have K5 : Hid (sub n0 (zAdd z0 q i) z1 = (sub n0 z0 z1 && hasW (z1 q) i)) := grown_sub f0 f1 i hqn
  have K6 : Hid (sub n0 z0 (zRem z1 q i) = (sub n0 z0 z1 && !hasW (z0 q) i)) := sub_less f0 f1 i hqn
  clear hq
  go_enter Try.func4, Try.ntmps4
  go_wp2_with (go_at_call 8; refine (bytes2_ok _ _ _ _ _ _ _ (by omega) _).mono ?_; rintro e w' ⟨rfl, rfl⟩)
  refine (clone_any _ a0 n0 c0 z0 (by omega) S0).mono ?_
  rintro e w1 ⟨s, rfl, Ws, B1⟩
  replace S1 := S1.kept B1
  clear S0
  go_wp2_with fail
  refine (clone_any _ a1 n1 c1 z1 (by omega) S1).mono ?_
  rintro e w2 ⟨t, rfl, Wt, B2⟩
  clear S1
  replace Ws := Ws.kept B2
  replace B2 := B1.trans (B2.mono B1.size)
  clear B1
  go_wp2_with fail
  refine (clone_any _ s n0 n0 z0 (by omega) Ws.src).mono ?_
  rintro e w3 ⟨g, rfl, Wg, B3⟩
  go_wp2_with fail
  refine (zzadd_any _ g n0 n0 z0 i q Wg hi HQ.out (by omega) hm).mono ?_
  rintro e w4 ⟨rfl, Wg', C4⟩
  replace C4 := B3.trans C4
  clear B3 Wg
  replace Ws := Ws.kept C4
  replace Wt := Wt.kept C4
  have B4 := B2.trans (C4.mono B2.size)
  have Wg := Wg'.mono (Nat.zero_le _)
  clear B2 C4 Wg'
  go_wp2_with fail
  refine (clone_any _ s n0 n0 z0 (by omega) Ws.src).mono ?_
  rintro e w5 ⟨r, rfl, Wr, B5⟩
  go_wp2_with fail
  refine (zzremove_any _ r n0 n0 z0 i q Wr hi HQ.out (by omega) hm).mono ?_
  rintro e w6 ⟨rfl, Wr', C6⟩
  replace C6 := B5.trans C6
  clear B5 Wr
  replace Ws := Ws.kept C6
  replace Wt := Wt.kept C6
  replace Wg := Wg.kept C6
  have B6 := B4.trans (C6.mono B4.size)
  have Wr := Wr'.mono (Nat.zero_le _)
  clear B4 C6 Wr'
  go_wp2_with fail
  refine (clone_any _ t n1 n1 z1 (by omega) Wt.src).mono ?_
  rintro e w7 ⟨l, rfl, Wl, B7⟩
  go_wp2_with fail
  refine (zzremove_any _ l n1 n1 z1 i q Wl hi HQ.out (by omega) hm).mono ?_
  rintro e w8 ⟨rfl, Wl', C8⟩
  replace C8 := B7.trans C8
  clear B7 Wl
  replace Ws := Ws.kept C8
  replace Wt := Wt.kept C8
  replace Wg := Wg.kept C8
  replace Wr := Wr.kept C8
  have B8 := B6.trans (C8.mono B6.size)
  have Wl := Wl'.mono (Nat.zero_le _)
  clear B6 C8 Wl'
  go_wp2_with fail
  refine (zzsubset_any _ s g n0 n0 n0 n0 z0 (zAdd z0 q i) (by omega) (by omega) (by omega) Ws.src Wg.src).mono ?_
  rintro e w9 ⟨rfl, B9⟩
  replace Ws := Ws.kept B9
  replace Wt := Wt.kept B9
  replace Wg := Wg.kept B9
  replace Wr := Wr.kept B9
  replace Wl := Wl.kept B9
  replace B9 := B8.trans (B9.mono B8.size)
  clear B8
  go_wp2_with fail
  refine (zzsubset_any _ r s n0 n0 n0 n0 (zRem z0 q i) z0 (by omega) (by omega) (by omega) Wr.src Ws.src).mono ?_
  rintro e w10 ⟨rfl, B10⟩
  replace Ws := Ws.kept B10
  replace Wt := Wt.kept B10
  replace Wg := Wg.kept B10
  replace Wr := Wr.kept B10
  replace Wl := Wl.kept B10
  replace B10 := B9.trans (B10.mono B9.size)
  clear B9
  go_wp2_with fail
  refine (zzsubset_any _ s t n0 n0 n1 n1 z0 z1 (by omega) (by omega) (by omega) Ws.src Wt.src).mono ?_
  rintro e w11 ⟨rfl, B11⟩
  replace Ws := Ws.kept B11
  replace Wt := Wt.kept B11
  replace Wg := Wg.kept B11
  replace Wr := Wr.kept B11
  replace Wl := Wl.kept B11
  replace B11 := B10.trans (B11.mono B10.size)
  clear B10
  cases hst : sub n0 z0 z1 with
  | true =>
    have k5 : sub n0 (zAdd z0 q i) z1 = hasW (z1 q) i := by rw [K5.out, hst]; rfl
    have k6 : sub n0 z0 (zRem z1 q i) = !hasW (z0 q) i := by rw [K6.out, hst]; rfl
    go_wp2_with fail
    refine (zzsubset_any _ g t n0 n0 n1 n1 (zAdd z0 q i) z1 (by omega) (by omega) (by omega) Wg.src Wt.src).mono ?_
    rintro e w12 ⟨rfl, B12⟩
    replace Ws := Ws.kept B12
    replace Wt := Wt.kept B12
    replace Wg := Wg.kept B12
    replace Wr := Wr.kept B12
    replace Wl := Wl.kept B12
    replace B12 := B11.trans (B12.mono B11.size)
    clear B11
    go_wp2_with fail
    refine (zzhas_any _ t n1 n1 z1 i q Wt hi HQ.out (by omega) hm).mono ?_
    rintro e w13 ⟨rfl, B13⟩
    replace Ws := Ws.kept B13
    replace Wt := Wt.kept B13
    replace Wg := Wg.kept B13
    replace Wr := Wr.kept B13
    replace Wl := Wl.kept B13
    replace B13 := B12.trans (B13.mono B12.size)
    clear B12
    go_wp2_with fail
    refine (zzsubset_any _ s l n0 n0 n1 n1 z0 (zRem z1 q i) (by omega) (by omega) (by omega) Ws.src Wl.src).mono ?_
    rintro e w14 ⟨rfl, B14⟩
    replace Ws := Ws.kept B14
    replace Wt := Wt.kept B14
    replace Wg := Wg.kept B14
    replace Wr := Wr.kept B14
    replace Wl := Wl.kept B14
    replace B14 := B13.trans (B14.mono B13.size)
    clear B13
    go_wp2_with fail
    refine (zzhas_any _ s n0 n0 z0 i q Ws hi HQ.out (by omega) hm).mono ?_
    rintro e w15 ⟨rfl, B15⟩
    replace Ws := Ws.kept B15
    replace Wt := Wt.kept B15
    replace Wg := Wg.kept B15
    replace Wr := Wr.kept B15
    replace Wl := Wl.kept B15
    replace B15 := B14.trans (B15.mono B14.size)
    clear B14
    go_wp2_with fail
    refine (zzhas_any _ g n0 n0 (zAdd z0 q i) i q Wg hi HQ.out (by omega) hm).mono ?_
    rintro e w16 ⟨rfl, B16⟩
    replace Ws := Ws.kept B16
    replace Wt := Wt.kept B16
    replace Wg := Wg.kept B16
    replace Wr := Wr.kept B16
    replace Wl := Wl.kept B16
    replace B16 := B15.trans (B16.mono B15.size)
    clear B15
    go_wp2_with fail
    refine (zzhas_any _ r n0 n0 (zRem z0 q i) i q Wr hi HQ.out (by omega) hm).mono ?_
    rintro e w17 ⟨rfl, B17⟩
    replace Ws := Ws.kept B17
    replace Wt := Wt.kept B17
    replace Wg := Wg.kept B17
    replace Wr := Wr.kept B17
    replace Wl := Wl.kept B17
    replace B17 := B16.trans (B17.mono B16.size)
    clear B16
    go_wp2
    go_ret
    exact ⟨rfl, B17⟩
  | false =>
    have k5 : sub n0 (zAdd z0 q i) z1 = false := by rw [K5.out, hst]; rfl
    have k6 : sub n0 z0 (zRem z1 q i) = false := by rw [K6.out, hst]; rfl
    go_wp2_with fail
    refine (zzsubset_any _ g t n0 n0 n1 n1 (zAdd z0 q i) z1 (by omega) (by omega) (by omega) Wg.src Wt.src).mono ?_
    rintro e w12 ⟨rfl, B12⟩
    replace Ws := Ws.kept B12
    replace Wt := Wt.kept B12
    replace Wg := Wg.kept B12
    replace Wr := Wr.kept B12
    replace Wl := Wl.kept B12
    replace B12 := B11.trans (B12.mono B11.size)
    clear B11
    go_wp2_with fail
    refine (zzsubset_any _ s l n0 n0 n1 n1 z0 (zRem z1 q i) (by omega) (by omega) (by omega) Ws.src Wl.src).mono ?_
    rintro e w13 ⟨rfl, B13⟩
    replace Ws := Ws.kept B13
    replace Wt := Wt.kept B13
    replace Wg := Wg.kept B13
    replace Wr := Wr.kept B13
    replace Wl := Wl.kept B13
    replace B13 := B12.trans (B13.mono B12.size)
    clear B12
    go_wp2_with fail
    refine (zzhas_any _ g n0 n0 (zAdd z0 q i) i q Wg hi HQ.out (by omega) hm).mono ?_
    rintro e w14 ⟨rfl, B14⟩
    replace Ws := Ws.kept B14
    replace Wt := Wt.kept B14
    replace Wg := Wg.kept B14
    replace Wr := Wr.kept B14
    replace Wl := Wl.kept B14
    replace B14 := B13.trans (B14.mono B13.size)
    clear B13
    go_wp2_with fail
    refine (zzhas_any _ r n0 n0 (zRem z0 q i) i q Wr hi HQ.out (by omega) hm).mono ?_
    rintro e w15 ⟨rfl, B15⟩
    replace Ws := Ws.kept B15
    replace Wt := Wt.kept B15
    replace Wg := Wg.kept B15
    replace Wr := Wr.kept B15
    replace Wl := Wl.kept B15
    replace B15 := B14.trans (B15.mono B14.size)
    clear B14
    go_wp2
    go_ret
    exact ⟨rfl, B15⟩

set_option maxHeartbeats 1000000 in
theorem nodes_early (a0 a1 : Option Addr) (n0 c0 n1 c1 : Nat) (i : Int) (w : World) (m0 : n0 ≤ 9223372036854775807) (m1 : n1 ≤ 9223372036854775807) (b0 : -9223372036854775808 ≤ i) (b1 : i ≤ 9223372036854775807)
    (h : 65536 < n0 ∨ 65536 < n1 ∨ n1 < n0 ∨ i < 0 ∨ (0 ≤ i ∧ (n0 : Int) ≤ i / 64)) :
    Calls Try.prog 4 #[.slice a0 n0 c0, .slice a1 n1 c1, .int .i64 i] w fun e w' => e = .returned (.bool true) ∧ w' = w := by
  rcases h with h | h | h | h | ⟨h, h'⟩
  all_goals
    go_enter Try.func4, Try.ntmps4
    go_wp2
    all_goals
      go_ret
      exact ⟨rfl, rfl⟩
end Go.Proofs.Qxb6602474a
