/- The state word of an RWMutex, said plainly: its four fields, the two takes, and what the laws want of them. No walk here. -/
import Derived.Laws.BitsAllLaws
namespace Go.Proofs.Qxb6001135a

def vW (s : Int) : Bool := bits .and .u64 s 1 != 0
def vQ (s : Int) : Bool := bits .and .u64 (s / 2) 1 != 0
def vR (s : Int) : Int := bits .and .u64 (s / 4) 2305843009213693951
def vB (s : Int) : Bool := s / 9223372036854775808 != 0
/-- The state behind a read take, and whether it is granted. -/
def tS (s : Int) : Int := IntKind.u64.wrap (s + 4)
def tSo (s : Int) : Bool := bits .and .u64 s 3 == 0
/-- The state behind a write take, and whether it is granted. -/
def tX (s : Int) : Int := bits .or .u64 s 1
def tXo (s : Int) : Bool := s == 0
/-- A word fits 64 bits. -/
def W64 (s : Int) : Prop := 0 ≤ s ∧ s < 18446744073709551616

theorem and1 {s : Int} (h : W64 s) : bits .and .u64 s 1 = s % 2 := by
  obtain ⟨h0, h1⟩ := h
  rw [u64_and s 1 h0 h1 (by decide) (by decide)]
  show (((s.toNat &&& 1 : Nat)) : Int) = s % 2
  rw [nat_mask1]; omega
theorem and3 {s : Int} (h : W64 s) : bits .and .u64 s 3 = s % 4 := by
  obtain ⟨h0, h1⟩ := h
  rw [u64_and s 3 h0 h1 (by decide) (by decide)]
  show (((s.toNat &&& 3 : Nat)) : Int) = s % 4
  rw [nat_mask2]; omega
theorem and61 {s : Int} (h : W64 s) : bits .and .u64 s 2305843009213693951 = s % 2305843009213693952 := by
  obtain ⟨h0, h1⟩ := h
  rw [u64_and s 2305843009213693951 h0 h1 (by decide) (by decide)]
  show (((s.toNat &&& 2305843009213693951 : Nat)) : Int) = s % 2305843009213693952
  rw [nat_mask61]; omega
theorem nat_or1 (n : Nat) : n ||| 1 = n / 2 * 2 + 1 := by
  have e : n ||| 1 = (n / 2 * 2) ||| 1 := by
    apply Nat.eq_of_testBit_eq
    intro i
    cases i with
    | zero => simp
    | succ i =>
      rw [Nat.testBit_or, Nat.testBit_or, Nat.testBit_succ, Nat.testBit_succ (n / 2 * 2)]
      have h2 : n / 2 * 2 / 2 = n / 2 := by omega
      rw [h2]
  rw [e]
  exact nat_join 1 (n / 2 * 2) 1 (by omega) (by decide)
theorem or1 {s : Int} (h : W64 s) : bits .or .u64 s 1 = s / 2 * 2 + 1 := by
  obtain ⟨h0, h1⟩ := h
  rw [u64_or s 1 h0 h1 (by decide) (by decide)]
  show (((s.toNat ||| 1 : Nat)) : Int) = s / 2 * 2 + 1
  rw [nat_or1]; omega

theorem W64.half {s : Int} (h : W64 s) : W64 (s / 2) := by unfold W64 at *; omega
theorem W64.quarter {s : Int} (h : W64 s) : W64 (s / 4) := by unfold W64 at *; omega
theorem vW_eq {s : Int} (h : W64 s) : vW s = (s % 2 != 0) := by unfold vW; rw [and1 h]
theorem vQ_eq {s : Int} (h : W64 s) : vQ s = (s / 2 % 2 != 0) := by unfold vQ; rw [and1 h.half]
theorem vR_eq {s : Int} (h : W64 s) : vR s = s / 4 % 2305843009213693952 := by unfold vR; rw [and61 h.quarter]
theorem tSo_eq {s : Int} (h : W64 s) : tSo s = (s % 4 == 0) := by unfold tSo; rw [and3 h]
theorem tX_eq {s : Int} (h : W64 s) : tX s = s / 2 * 2 + 1 := by unfold tX; rw [or1 h]
theorem tX_fits {s : Int} (h : W64 s) : W64 (tX s) := by rw [tX_eq h]; unfold W64 at *; omega

/-! ### What the law of the write take wants -/
theorem x_W {s : Int} (h : W64 s) : vW (tX s) = true := by
  rw [vW_eq (tX_fits h), tX_eq h]
  have e : (s / 2 * 2 + 1) % 2 = 1 := by omega
  rw [e]; rfl
theorem x_Q {s : Int} (h : W64 s) : vQ (tX s) = vQ s := by
  rw [vQ_eq (tX_fits h), vQ_eq h, tX_eq h]
  have e : (s / 2 * 2 + 1) / 2 = s / 2 := by omega
  rw [e]
theorem x_R {s : Int} (h : W64 s) : vR (tX s) = vR s := by
  rw [vR_eq (tX_fits h), vR_eq h, tX_eq h]
  have e : (s / 2 * 2 + 1) / 4 = s / 4 := by omega
  rw [e]
theorem x_B {s : Int} (h : W64 s) : vB (tX s) = vB s := by
  unfold vB; rw [tX_eq h]
  have e : (s / 2 * 2 + 1) / 9223372036854775808 = s / 9223372036854775808 := by omega
  rw [e]
theorem x_X {s : Int} (h : W64 s) : tX (tX s) = tX s := by
  rw [tX_eq (tX_fits h), tX_eq h]; omega
theorem x_o {s : Int} (h : W64 s) : tXo (tX s) = false := by
  unfold tXo; rw [tX_eq h]; unfold W64 at h; simp; omega
theorem x_free {s : Int} (h : W64 s) (hw : vW s = false) (hq : vQ s = false) (hr : (vR s == 0) = true) (hb : vB s = false) : s = 0 := by
  rw [vW_eq h] at hw; rw [vQ_eq h] at hq; rw [vR_eq h] at hr; unfold vB at hb; unfold W64 at h
  simp at hw hq hr hb; omega
theorem x_yes {s : Int} (h : W64 s) (hw : vW s = false) (hq : vQ s = false) (hr : (vR s == 0) = true) (hb : vB s = false) : tXo s = true ∧ tSo s = true := by
  have e := x_free h hw hq hr hb
  subst e
  exact ⟨by decide, by rw [tSo_eq h]; decide⟩
theorem x_no {s : Int} (h : W64 s) (hn : vW s = true ∨ vQ s = true ∨ (vR s == 0) = false ∨ vB s = true) : tXo s = false := by
  by_cases e : s = 0
  · subst e
    rw [vW_eq h, vQ_eq h, vR_eq h] at hn
    unfold vB at hn
    rcases hn with hn | hn | hn | hn <;> revert hn <;> decide
  · unfold tXo; simpa using e

/-! ### What the law of the read take wants -/
theorem s_o {s : Int} (h : W64 s) : tSo s = (!vW s && !vQ s) := by
  rw [tSo_eq h, vW_eq h, vQ_eq h, Bool.eq_iff_iff]; simp; omega
theorem s_room {s : Int} (h : W64 s) (hb : vB s = false) (hr : vR s < 2305843009213693951) : tS s = s + 4 ∧ s + 4 < 9223372036854775808 := by
  rw [vR_eq h] at hr; unfold vB at hb; unfold W64 at h; simp at hb
  have e : s + 4 < 9223372036854775808 := by omega
  refine ⟨?_, e⟩
  unfold tS; rw [IntKind.wrap_u64]; omega
theorem s_fits {s : Int} (h : W64 s) (hb : vB s = false) (hr : vR s < 2305843009213693951) : W64 (tS s) := by
  obtain ⟨e, l⟩ := s_room h hb hr
  rw [e]; unfold W64 at *; omega
theorem s_W {s : Int} (h : W64 s) (hb : vB s = false) (hr : vR s < 2305843009213693951) : vW (tS s) = vW s := by
  rw [vW_eq (s_fits h hb hr), vW_eq h, (s_room h hb hr).1]
  have e : (s + 4) % 2 = s % 2 := by omega
  rw [e]
theorem s_Q {s : Int} (h : W64 s) (hb : vB s = false) (hr : vR s < 2305843009213693951) : vQ (tS s) = vQ s := by
  rw [vQ_eq (s_fits h hb hr), vQ_eq h, (s_room h hb hr).1]
  have e : (s + 4) / 2 % 2 = s / 2 % 2 := by omega
  rw [e]
theorem s_R {s : Int} (h : W64 s) (hb : vB s = false) (hr : vR s < 2305843009213693951) : vR (tS s) = vR s + 1 := by
  have l := (s_room h hb hr).2
  rw [vR_eq h] at hr
  rw [vR_eq (s_fits h hb (by rw [vR_eq h]; exact hr)), vR_eq h, (s_room h hb (by rw [vR_eq h]; exact hr)).1]
  unfold W64 at h
  omega
theorem s_B {s : Int} (h : W64 s) (hb : vB s = false) (hr : vR s < 2305843009213693951) : vB (tS s) = false := by
  obtain ⟨e, l⟩ := s_room h hb hr
  unfold vB; rw [e]; unfold W64 at h
  simp; omega
theorem s_R0 {s : Int} (h : W64 s) : 0 ≤ vR s ∧ vR s ≤ 2305843009213693951 := by rw [vR_eq h]; omega
end Go.Proofs.Qxb6001135a
