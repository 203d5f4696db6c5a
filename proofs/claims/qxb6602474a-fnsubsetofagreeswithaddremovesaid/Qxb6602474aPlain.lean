/- Sets of nodes as rows of 64-bit words, said plainly: when one word lacks no bit of another's; what the laws want of that. No walk here. -/
import Derived.Laws.BitsAllLaws
namespace Go.Proofs.Qxb6602474a

/-- A word fits 64 bits. -/
def W64 (x : Int) : Prop := 0 ≤ x ∧ x < 18446744073709551616
/-- Word for word, x has no bit that y lacks. -/
def lacks (x y : Int) : Bool := bits .andNot .u64 x y == 0
def sub (n : Nat) (x y : Nat → Int) : Bool := (List.range n).all (fun i => lacks (x i) (y i))
theorem sub_succ (n : Nat) (x y : Nat → Int) : sub (n + 1) x y = (sub n x y && lacks (x n) (y n)) := by
  simp [sub, List.range_succ]
theorem sub_iff (n : Nat) (x y : Nat → Int) : sub n x y = true ↔ ∀ i, i < n → lacks (x i) (y i) = true := by
  simp [sub]
theorem sub_hit {n k : Nat} {x y : Nat → Int} (hk : k < n) (h : lacks (x k) (y k) = false) : sub n x y = false := by
  cases e : sub n x y with
  | false => rfl
  | true => rw [sub_iff] at e; rw [e k hk] at h; cases h
theorem lacks_no {x y : Int} (h : lacks x y = false) : (bits .andNot .u64 x y != 0) = true := by
  unfold lacks at h; simpa using h
theorem lacks_yes {x y : Int} (h : lacks x y = true) : (bits .andNot .u64 x y != 0) = false := by
  unfold lacks at h; simpa using h

/-- The i-th bit of a word. -/
def bit (x : Int) (i : Nat) : Bool := x.toNat.testBit i

theorem bit_hi {x : Int} (h : W64 x) {i : Nat} (hi : 64 ≤ i) : bit x i = false := by
  unfold bit
  apply Nat.testBit_lt_two_pow
  have h1 : (18446744073709551616 : Nat) ≤ 2 ^ i := Nat.le_trans (by decide) (Nat.pow_le_pow_right (by decide) hi)
  have := h.2; have := h.1
  omega

theorem word_ext {x y : Int} (hx : W64 x) (hy : W64 y) (h : ∀ i, bit x i = bit y i) : x = y := by
  have e : x.toNat = y.toNat := Nat.eq_of_testBit_eq h
  have := hx.1; have := hy.1
  omega

theorem and_zero (a b : Nat) : a &&& b = 0 ↔ ∀ i, (a.testBit i && b.testBit i) = false := by
  constructor
  · intro h i
    rw [← Nat.testBit_and, h]; simp
  · intro h
    apply Nat.eq_of_testBit_eq
    intro i
    rw [Nat.testBit_and, h i]; simp

theorem not_bit (y : Nat) (hy : y < 18446744073709551616) (i : Nat) : (18446744073709551615 - y).testBit i = (decide (i < 64) && !y.testBit i) := by
  have e : 18446744073709551615 - y = 2 ^ 64 - (y + 1) := by
    have : (2 : Nat) ^ 64 = 18446744073709551616 := by decide
    omega
  rw [e]
  exact Nat.testBit_two_pow_sub_succ (by simpa using hy) i

theorem lacks_iff {x y : Int} (hx : W64 x) (hy : W64 y) : lacks x y = true ↔ ∀ i, bit x i = true → bit y i = true := by
  unfold lacks
  rw [u64_andNot x y hx.1 hx.2 hy.1 hy.2]
  have hyn : y.toNat < 18446744073709551616 := by have := hy.1; have := hy.2; omega
  have e : ((((x.toNat &&& (18446744073709551615 - y.toNat) : Nat) : Int) == 0) = true) ↔ x.toNat &&& (18446744073709551615 - y.toNat) = 0 := by
    rw [beq_iff_eq]; omega
  rw [e, and_zero]
  constructor
  · intro h i hi
    have h' := h i
    rw [not_bit _ hyn] at h'
    unfold bit at hi ⊢
    rw [hi] at h'
    have h64 : i < 64 := by
      by_cases h64 : i < 64
      · exact h64
      · have := bit_hi hx (i := i) (by omega)
        unfold bit at this
        rw [this] at hi; cases hi
    simpa [h64] using h'
  · intro h i
    rw [not_bit _ hyn]
    have h' := h i
    unfold bit at h'
    cases hb : x.toNat.testBit i with
    | false => rfl
    | true => rw [h' hb]; simp

theorem sub_bits {n : Nat} {x y : Nat → Int} (hx : ∀ i, W64 (x i)) (hy : ∀ i, W64 (y i)) : sub n x y = true ↔ ∀ i, i < n → ∀ j, bit (x i) j = true → bit (y i) j = true := by
  rw [sub_iff]
  exact ⟨fun h i hi => (lacks_iff (hx i) (hy i)).1 (h i hi), fun h i hi => (lacks_iff (hx i) (hy i)).2 (h i hi)⟩

/-! ### The order's three laws -/
theorem sub_refl (n : Nat) (x : Nat → Int) (hx : ∀ i, W64 (x i)) : sub n x x = true := (sub_bits hx hx).2 fun _ _ _ h => h
theorem sub_trans {n m : Nat} {x y z : Nat → Int} (hx : ∀ i, W64 (x i)) (hy : ∀ i, W64 (y i)) (hz : ∀ i, W64 (z i)) (hnm : n ≤ m) (h1 : sub n x y = true) (h2 : sub m y z = true) : sub n x z = true :=
  (sub_bits hx hz).2 fun i hi j h => (sub_bits hy hz).1 h2 i (by omega) j ((sub_bits hx hy).1 h1 i hi j h)
theorem sub_anti {n : Nat} {x y : Nat → Int} (hx : ∀ i, W64 (x i)) (hy : ∀ i, W64 (y i)) (h1 : sub n x y = true) (h2 : sub n y x = true) (i : Nat) (hi : i < n) : x i = y i := by
  apply word_ext (hx i) (hy i)
  intro j
  rw [Bool.eq_iff_iff]
  exact ⟨(sub_bits hx hy).1 h1 i hi j, (sub_bits hy hx).1 h2 i hi j⟩
end Go.Proofs.Qxb6602474a
