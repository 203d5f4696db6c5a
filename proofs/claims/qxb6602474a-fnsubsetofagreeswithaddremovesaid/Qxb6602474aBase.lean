/- Slices of words as the walks of this seat speak of them; the contracts of zzCloneWords (6) and of subsetOf (12, 7). -/
import Derived.Test.Qxb6602474aRows
import Derived.Test.Qxb6602474aPlain
import Derived.WalkKit
import Derived.ProofKit
import Derived.OpenShut
import Derived.Below
import Derived.WalkSpells
import Derived.WalkSmall
import Derived.Deep.OwnRows
import Derived.Deep.Draws
import Derived.Deep.QuietTactic
import Derived.BigQuiet
namespace Go.Proofs.Qxb6602474a
open Go.ChangeShapes Go.WideShapes Go.ChangeAt Go.RowKit Go.Deep

theorem Try.info26 : (Try.prog.info? 26).map (fun i => (i.zero, i.size, i.bytes)) = some (some (.int .u64 0), 1, 8) := by kernel_rfl

/-- A slice that can be read: n words, the i-th is 'z i'. -/
def Src (w : World) (a : Option Addr) (n : Nat) (z : Nat → Int) : Prop :=
  n = 0 ∨ ∃ b off, a = some ⟨b, off, none⟩ ∧ ∀ i, i < n → w.cell? ⟨b, off + i, none⟩ = some (.int .u64 (z i))

/-- A slice of the call's own, from block B on: nil, or a whole row of n words. -/
def Words (B : Nat) (w : World) (a : Option Addr) (n : Nat) (z : Nat → Int) : Prop :=
  (a = none ∧ n = 0) ∨ ∃ g, a = some ⟨g, 0, none⟩ ∧ B ≤ g ∧ w.rowIs g 26 n (fun i => .int .u64 (z i))

theorem Words.src {B : Nat} {w : World} {a : Option Addr} {n : Nat} {z : Nat → Int} (h : Words B w a n z) : Src w a n z := by
  rcases h with ⟨_, h⟩ | ⟨g, ha, _, hr⟩
  · exact .inl h
  · exact .inr ⟨g, 0, ha, fun i hi => by rw [Nat.zero_add]; exact hr.cell hi⟩

/-- It stays behind whatever turns nothing of what is there. -/
theorem Words.kept {B : Nat} {w w' : World} {a : Option Addr} {n : Nat} {z : Nat → Int} (h : Words B w a n z) (hb : Below w.heap.size w w') : Words B w' a n z := by
  rcases h with h | ⟨g, ha, hB, hr⟩
  · exact .inl h
  · exact .inr ⟨g, ha, hB, hr.of_block (hb.block g hr.lt)⟩

theorem Words.mono {B B' : Nat} {w : World} {a : Option Addr} {n : Nat} {z : Nat → Int} (h : Words B w a n z) (hB : B' ≤ B) : Words B' w a n z := by
  rcases h with h | ⟨g, ha, hg, hr⟩
  · exact .inl h
  · exact .inr ⟨g, ha, by omega, hr⟩

theorem Src.kept {w w' : World} {a : Option Addr} {n : Nat} {z : Nat → Int} (h : Src w a n z) (hb : Below w.heap.size w w') : Src w' a n z := by
  rcases h with h | ⟨b, off, ha, hc⟩
  · exact .inl h
  · refine .inr ⟨b, off, ha, fun i hi => ?_⟩
    have h1 := hc i hi
    have hlt : b < w.heap.size := by
      by_cases hlt : b < w.heap.size
      · exact hlt
      · have e : w.heap[b]? = none := by simp; omega
        simp [World.cell?, e] at h1
    rw [hb.cell (p := ⟨b, off + i, none⟩) hlt]; exact h1

/-- What the clone's loop holds at its head: k words are copied. -/
def copied (z : Nat → Int) (k : Nat) : Nat → Value := fun i => if i < k then .int .u64 (z i) else .int .u64 0

theorem copied_start (w : World) (n : Nat) (z : Nat → Int) : (w.alloc (.cells (madeCells #[.int .u64 0] n) 26)).rowIs w.heap.size 26 n (copied z 0) :=
  (World.rowIs_made w (.int .u64 0) n 26).congr (fun i _ => by simp [copied])

theorem copied_step {w : World} {g n k : Nat} {z : Nat → Int} (h : w.rowIs g 26 n (copied z k)) : (w.setCell ⟨g, k, none⟩ (.int .u64 (z k))).rowIs g 26 n (copied z (k + 1)) :=
  (h.set k _).congr (fun i _ => by
    simp only [copied]
    by_cases e : i = k
    · subst e; simp
    · rw [if_neg e]
      by_cases hlt : i < k
      · rw [if_pos hlt, if_pos (by omega)]
      · rw [if_neg hlt, if_neg (by omega)])

theorem copied_end {w : World} {g n : Nat} {z : Nat → Int} (h : w.rowIs g 26 n (copied z n)) : w.rowIs g 26 n (fun i => .int .u64 (z i)) :=
  h.congr (fun i hi => by simp [copied, hi])

theorem clone_nil (w : World) (c : Nat) : Calls Try.prog 6 #[.slice none 0 c] w fun e w' => e = .returned (.slice none 0 0) ∧ w' = w := by
  have hn := fun (w : World) => Lib.run_eql_slice_nil (P := Try.prog) w 22 26 none 0 c 0 0 Try.underlying22
  go_enter Try.func6, Try.ntmps6
  go_wp2
  go_ret
  exact ⟨rfl, rfl⟩

set_option maxHeartbeats 400000 in
theorem clone_some (w : World) (b off : Nat) (sp : Option Nat) (n c : Nat) (z : Nat → Int) (hn : n ≤ 1048576) (hsp : 0 < n → sp = none) (hb : b < w.heap.size ∨ n = 0)
    (hc : ∀ i, i < n → w.cell? ⟨b, off + i, none⟩ = some (.int .u64 (z i))) :
    Calls Try.prog 6 #[.slice (some ⟨b, off, sp⟩) n c] w fun e w' => e = .returned (.slice (some ⟨w.heap.size, 0, none⟩) n n) ∧ w'.rowIs w.heap.size 26 n (fun i => .int .u64 (z i)) ∧ Below w.heap.size w w' := by
  have hq := fun (w : World) => Lib.run_eql_slice_nil (P := Try.prog) w 22 26 (some ⟨b, off, sp⟩) n c 0 0 Try.underlying22
  have hmk := run_make_row' (P := Try.prog) 22 26 (.int .u64 0) 8 Try.underlying22 Try.info26 rfl .i64 .i64 n (by omega) (by omega)
  go_enter Try.func6, Try.ntmps6
  go_wp2
  clear hmk hq
  go_loopw [4] (fun i wr => ∃ k : Nat, k ≤ n ∧ i = .int .i64 k ∧ wr.rowIs w.heap.size 26 n (copied z k) ∧ Below w.heap.size w wr) (fun i _ => n - (intOf i).toNat)
  case atStart => exact ⟨0, Nat.zero_le _, rfl, copied_start w n z, (Below.refl _ _).alloc (Nat.le_refl _) _⟩
  case round =>
    obtain ⟨k, hk, rfl, hrow, hbel⟩ := hrel
    by_cases hlt : k < n
    · have hspn : sp = none := hsp (by omega)
      subst hspn
      have hcx : wr.cell? ⟨b, off + k, none⟩ = some (.int .u64 (z k)) := (hbel.cell (by show b < w.heap.size; omega)).trans (hc k hlt)
      have hdx : wr.cell? ⟨w.heap.size, k, none⟩ = some (copied z k k) := hrow.cell hlt
      have hfx : wr.frozen? ⟨w.heap.size, k, none⟩ = false := hrow.frozen k
      have R1 := copied_step hrow
      have R2 := hbel.setCell (p := ⟨w.heap.size, k, none⟩) (Nat.le_refl _) (.int .u64 (z k))
      clear hrow hbel hc hsp
      go_wp2
      go_roundw
      case rel => exact ⟨k + 1, by omega, by go_num, R1, R2⟩
      case measure => simp [intOf]; omega
    · go_wp2
      go_ret
      have e : k = n := by omega
      subst e
      exact ⟨rfl, copied_end hrow, hbel⟩

theorem cell_lt {w : World} {b o : Nat} {v : Value} (h : w.cell? ⟨b, o, none⟩ = some v) : b < w.heap.size := by
  by_cases hlt : b < w.heap.size
  · exact hlt
  · have e : w.heap[b]? = none := by simp; omega
    simp [World.cell?, e] at h

theorem clone_any (w : World) (a : Option Addr) (n c : Nat) (z : Nat → Int) (hn : n ≤ 1048576) (h : Src w a n z) :
    Calls Try.prog 6 #[.slice a n c] w fun e w' => ∃ a', e = .returned (.slice a' n n) ∧ Words w.heap.size w' a' n z ∧ Below w.heap.size w w' := by
  cases a with
  | none =>
    have h0 : n = 0 := by
      rcases h with h | ⟨b, off, ha, _⟩
      · exact h
      · cases ha
    subst h0
    refine (clone_nil w c).mono ?_
    rintro e w' ⟨rfl, rfl⟩
    exact ⟨none, rfl, .inl ⟨rfl, rfl⟩, Below.refl _ _⟩
  | some x =>
    obtain ⟨b, off, sp⟩ := x
    have hp : 0 < n → sp = none ∧ b < w.heap.size ∧ ∀ i, i < n → w.cell? ⟨b, off + i, none⟩ = some (.int .u64 (z i)) := by
      intro hpos
      rcases h with h | ⟨b', off', ha, hc⟩
      · omega
      · simp only [Option.some.injEq, Addr.mk.injEq] at ha
        obtain ⟨rfl, rfl, rfl⟩ := ha
        exact ⟨rfl, cell_lt (hc 0 hpos), hc⟩
    refine (clone_some w b off sp n c z hn (fun hpos => (hp hpos).1) ?_ (fun i hi => (hp (by omega)).2.2 i hi)).mono ?_
    · by_cases h0 : n = 0
      · exact .inr h0
      · exact .inl (hp (by omega)).2.1
    · rintro e w' ⟨rfl, hr, hb⟩
      exact ⟨_, rfl, .inr ⟨_, rfl, Nat.le_refl _, hr⟩, hb⟩

/-! ### subsetOf -/
theorem ret_bool {a b : Bool} (h : a = b) : Ending.returned (.bool a) = .returned (.bool b) := by rw [h]

set_option maxHeartbeats 400000 in
theorem subset_none (w : World) (a a' : Option Addr) (c m c' : Nat) :
    Calls Try.prog 12 #[.slice a 0 c, .slice a' m c'] w fun e w' => e = .returned (.bool true) ∧ w' = w := by
  go_enter Try.func12, Try.ntmps12
  go_wp2
  refine wp_loop_rounds 1 ?_
  rw [rounds_succ]
  go_wp2
  go_ret
  exact ⟨rfl, rfl⟩

set_option maxHeartbeats 400000 in
theorem subset_some (w : World) (b off b' off' n c m c' : Nat) (x y : Nat → Int) (_hn : n ≤ 1048576) (hm : m ≤ 1048576) (hnm : n ≤ m)
    (hx : ∀ i, i < n → w.cell? ⟨b, off + i, none⟩ = some (.int .u64 (x i))) (hy : ∀ i, i < m → w.cell? ⟨b', off' + i, none⟩ = some (.int .u64 (y i))) :
    Calls Try.prog 12 #[.slice (some ⟨b, off, none⟩) n c, .slice (some ⟨b', off', none⟩) m c'] w fun e w' => e = .returned (.bool (sub n x y)) ∧ ∃ j, w' = w.drewN j := by
  go_enter Try.func12, Try.ntmps12
  go_wp2
  go_loopw [8] (fun i wr => ∃ k j : Nat, k ≤ n ∧ i = .int .i64 k ∧ wr = w.drewN j ∧ sub k x y = true) (fun i _ => n - (intOf i).toNat)
  case atStart => exact ⟨0, 0, Nat.zero_le _, rfl, rfl, rfl⟩
  case round =>
    obtain ⟨k, j, hk, rfl, rfl, hs⟩ := hrel
    have HS : Hid (sub k x y = true) := hs
    clear hs
    by_cases hlt : k < n
    · have g1 := hx k hlt
      have g2 := hy k (by omega)
      have l1 : (k : Int) < (n : Int) := by omega
      have l2 : (k : Int) < (m : Int) := by omega
      cases hl : lacks (x k) (y k) with
      | false =>
        have hl' := lacks_no hl
        have HR : Hid (sub n x y = false) := sub_hit hlt hl
        clear hx hy hl
        go_wp2
        go_quiet (fail)
        go_wp2
        go_ret
        exact ⟨ret_bool HR.out.symm, _, World.drewN_drewN ..⟩
      | true =>
        have hl' := lacks_yes hl
        have HR : Hid (sub (k + 1) x y = true) := by unfold Hid; rw [sub_succ, HS.out, hl]; rfl
        clear hx hy hl
        go_wp2
        go_quiet (fail)
        go_wp2
        go_roundw
        case rel => exact ⟨k + 1, _, by omega, by go_num, rfl, HR.out⟩
        case measure => simp [intOf]; omega
    · have e : k = n := by omega
      have HR : Hid (sub n x y = true) := by unfold Hid; rw [← e]; exact HS.out
      clear e
      go_wp2
      go_ret
      exact ⟨ret_bool HR.out.symm, _, rfl⟩

theorem below_drawn (w : World) (j : Nat) : Below w.heap.size w (w.drewN j) := below_drewN (Below.refl _ _) j

theorem subset_any (w : World) (a a' : Option Addr) (n c m c' : Nat) (x y : Nat → Int) (hn : n ≤ 1048576) (hm : m ≤ 1048576) (hnm : n ≤ m) (hx : Src w a n x) (hy : Src w a' m y) :
    Calls Try.prog 12 #[.slice a n c, .slice a' m c'] w fun e w' => e = .returned (.bool (sub n x y)) ∧ Below w.heap.size w w' := by
  by_cases h0 : n = 0
  · subst h0
    refine (subset_none w a a' c m c').mono ?_
    rintro e w' ⟨rfl, rfl⟩
    exact ⟨rfl, Below.refl _ _⟩
  · rcases hx with hx | ⟨b, off, rfl, hx⟩
    · omega
    rcases hy with hy | ⟨b', off', rfl, hy⟩
    · omega
    refine (subset_some w b off b' off' n c m c' x y hn hm hnm hx hy).mono ?_
    rintro e w' ⟨rfl, j, rfl⟩
    exact ⟨rfl, below_drawn w j⟩

set_option maxHeartbeats 400000 in
theorem zzsubset_any (w : World) (a a' : Option Addr) (n c m c' : Nat) (x y : Nat → Int) (hn : n ≤ 1048576) (hm : m ≤ 1048576) (hnm : n ≤ m) (hx : Src w a n x) (hy : Src w a' m y) :
    Calls Try.prog 7 #[.slice a n c, .slice a' m c'] w fun e w' => e = .returned (.bool (sub n x y)) ∧ Below w.heap.size w w' := by
  go_enter Try.func7, Try.ntmps7
  go_wp2_with (go_at_call 12; refine (subset_any w a a' n c m c' x y hn hm hnm hx hy).mono ?_; rintro e w' ⟨rfl, hb⟩)
  go_ret
  exact ⟨rfl, by assumption⟩
end Go.Proofs.Qxb6602474a
