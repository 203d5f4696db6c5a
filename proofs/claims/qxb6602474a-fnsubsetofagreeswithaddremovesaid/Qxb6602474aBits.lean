/- One node's bit in a word, and in a row of words: what adding and removing do, and what the law wants of that. No walk here. -/
import Derived.Test.Qxb6602474aPlain
namespace Go.Proofs.Qxb6602474a

/-- The word that holds node i alone. -/
def msk (i : Int) : Int := IntKind.u64.wrap (2 ^ (i % 64).toNat)
def addW (x i : Int) : Int := bits .or .u64 x (msk i)
def remW (x i : Int) : Int := bits .andNot .u64 x (msk i)
def hasW (x i : Int) : Bool := bits .and .u64 x (msk i) != 0
/-- A row of words with one word turned. -/
def turn (z : Nat → Int) (q : Nat) (v : Int) : Nat → Int := fun j => if j = q then v else z j
def zAdd (z : Nat → Int) (q : Nat) (i : Int) : Nat → Int := turn z q (addW (z q) i)
def zRem (z : Nat → Int) (q : Nat) (i : Int) : Nat → Int := turn z q (remW (z q) i)

/-- The bit's place in its word. -/
def plc (i : Int) : Nat := (i % 64).toNat
theorem plc_lt (i : Int) : plc i < 64 := by unfold plc; omega

theorem msk_eq (i : Int) : msk i = ((2 ^ plc i : Nat) : Int) := by
  have h := plc_lt i
  have hp : (2 : Nat) ^ plc i < 18446744073709551616 := Nat.lt_of_lt_of_le (Nat.pow_lt_pow_right (by decide) h) (by decide)
  unfold msk
  rw [IntKind.wrap_u64]
  have e : (2 : Int) ^ (i % 64).toNat = ((2 ^ plc i : Nat) : Int) := by unfold plc; simp
  rw [e]
  generalize (2 : Nat) ^ plc i = p at hp
  omega
theorem msk_fits (i : Int) : W64 (msk i) := by
  have h := plc_lt i
  have hp : (2 : Nat) ^ plc i < 18446744073709551616 := Nat.lt_of_lt_of_le (Nat.pow_lt_pow_right (by decide) h) (by decide)
  rw [msk_eq]
  generalize (2 : Nat) ^ plc i = p at hp
  exact ⟨by omega, by omega⟩
theorem bit_msk (i : Int) (j : Nat) : bit (msk i) j = decide (j = plc i) := by
  unfold bit
  rw [msk_eq, Int.toNat_natCast, Nat.testBit_two_pow]
  simp [eq_comm]

theorem nat_lt {x : Int} (h : W64 x) : x.toNat < 18446744073709551616 := by have := h.1; have := h.2; omega

theorem bit_addW {x : Int} (h : W64 x) (i : Int) (j : Nat) : bit (addW x i) j = (bit x j || decide (j = plc i)) := by
  rw [← bit_msk]
  have m := msk_fits i
  unfold addW
  rw [u64_or x (msk i) h.1 h.2 m.1 m.2]
  unfold bit
  rw [Int.toNat_natCast, Nat.testBit_or]
theorem addW_fits {x : Int} (h : W64 x) (i : Int) : W64 (addW x i) := by
  have m := msk_fits i
  unfold addW
  rw [u64_or x (msk i) h.1 h.2 m.1 m.2]
  have hl : x.toNat ||| (msk i).toNat < 2 ^ 64 := Nat.or_lt_two_pow (by simpa using nat_lt h) (by simpa using nat_lt m)
  have e : (2 : Nat) ^ 64 = 18446744073709551616 := by decide
  rw [e] at hl
  exact ⟨by omega, by omega⟩
theorem bit_remW {x : Int} (h : W64 x) (i : Int) (j : Nat) : bit (remW x i) j = (bit x j && !decide (j = plc i)) := by
  rw [← bit_msk]
  have m := msk_fits i
  unfold remW
  rw [u64_andNot x (msk i) h.1 h.2 m.1 m.2]
  unfold bit
  rw [Int.toNat_natCast, Nat.testBit_and, not_bit _ (nat_lt m)]
  cases hx : x.toNat.testBit j with
  | false => rfl
  | true =>
    have h64 : j < 64 := by
      by_cases h64 : j < 64
      · exact h64
      · have := bit_hi h (i := j) (by omega)
        unfold bit at this
        rw [this] at hx; cases hx
    simp [h64]
theorem remW_fits {x : Int} (h : W64 x) (i : Int) : W64 (remW x i) := by
  have m := msk_fits i
  unfold remW
  rw [u64_andNot x (msk i) h.1 h.2 m.1 m.2]
  have hl : x.toNat &&& (18446744073709551615 - (msk i).toNat) ≤ x.toNat := Nat.and_le_left
  have := nat_lt h
  exact ⟨by omega, by omega⟩
theorem hasW_eq {x : Int} (h : W64 x) (i : Int) : hasW x i = bit x (plc i) := by
  have m := msk_fits i
  unfold hasW
  rw [u64_and x (msk i) h.1 h.2 m.1 m.2]
  cases hb : bit x (plc i) with
  | false =>
    have e : x.toNat &&& (msk i).toNat = 0 := by
      rw [and_zero]
      intro j
      have hj := bit_msk i j
      unfold bit at hj hb
      rw [hj]
      by_cases e : j = plc i
      · subst e; rw [hb]; rfl
      · simp [e]
    rw [e]; rfl
  | true =>
    have e : x.toNat &&& (msk i).toNat ≠ 0 := by
      intro e
      rw [and_zero] at e
      have hj := bit_msk i (plc i)
      have h2 := e (plc i)
      unfold bit at hj hb
      rw [hj, hb] at h2
      simp at h2
    simp only [bne_iff_ne, ne_eq]
    omega

theorem zAdd_fits {z : Nat → Int} (h : ∀ j, W64 (z j)) (q : Nat) (i : Int) (j : Nat) : W64 (zAdd z q i j) := by
  unfold zAdd turn
  split
  · exact addW_fits (h q) i
  · exact h j
theorem zRem_fits {z : Nat → Int} (h : ∀ j, W64 (z j)) (q : Nat) (i : Int) (j : Nat) : W64 (zRem z q i j) := by
  unfold zRem turn
  split
  · exact remW_fits (h q) i
  · exact h j
theorem bit_zAdd {z : Nat → Int} (h : ∀ j, W64 (z j)) (q : Nat) (i : Int) (k j : Nat) : bit (zAdd z q i k) j = (bit (z k) j || decide (k = q ∧ j = plc i)) := by
  unfold zAdd turn
  by_cases e : k = q
  · subst e; simp [bit_addW (h k)]
  · simp [e]
theorem bit_zRem {z : Nat → Int} (h : ∀ j, W64 (z j)) (q : Nat) (i : Int) (k j : Nat) : bit (zRem z q i k) j = (bit (z k) j && !decide (k = q ∧ j = plc i)) := by
  unfold zRem turn
  by_cases e : k = q
  · subst e; simp [bit_remW (h k)]
  · simp [e]

/-! ### What the law wants -/
theorem sub_grown {n q : Nat} {z : Nat → Int} (h : ∀ j, W64 (z j)) (i : Int) : sub n z (zAdd z q i) = true :=
  (sub_bits h (zAdd_fits h q i)).2 fun k _ j hj => by rw [bit_zAdd h, hj]; rfl
theorem sub_shrunk {n q : Nat} {z : Nat → Int} (h : ∀ j, W64 (z j)) (i : Int) : sub n (zRem z q i) z = true :=
  (sub_bits (zRem_fits h q i) h).2 fun k _ j hj => by
    rw [bit_zRem h, Bool.and_eq_true] at hj; exact hj.1
theorem has_grown {q : Nat} {z : Nat → Int} (h : ∀ j, W64 (z j)) (i : Int) : hasW (zAdd z q i q) i = true := by
  rw [hasW_eq (zAdd_fits h q i q), bit_zAdd h]; simp
theorem has_shrunk {q : Nat} {z : Nat → Int} (h : ∀ j, W64 (z j)) (i : Int) : hasW (zRem z q i q) i = false := by
  rw [hasW_eq (zRem_fits h q i q), bit_zRem h]; simp
theorem grown_sub {n q : Nat} {x y : Nat → Int} (hx : ∀ j, W64 (x j)) (hy : ∀ j, W64 (y j)) (i : Int) (hq : q < n) :
    sub n (zAdd x q i) y = (sub n x y && hasW (y q) i) := by
  rw [Bool.eq_iff_iff, Bool.and_eq_true, sub_bits (zAdd_fits hx q i) hy, sub_bits hx hy, hasW_eq (hy q)]
  constructor
  · intro h
    exact ⟨fun k hk j hj => h k hk j (by rw [bit_zAdd hx, hj]; rfl), h q hq _ (by rw [bit_zAdd hx]; simp)⟩
  · rintro ⟨h1, h2⟩ k hk j hj
    rw [bit_zAdd hx, Bool.or_eq_true] at hj
    rcases hj with hj | hj
    · exact h1 k hk j hj
    · obtain ⟨rfl, rfl⟩ := of_decide_eq_true hj
      exact h2
theorem sub_less {n q : Nat} {x y : Nat → Int} (hx : ∀ j, W64 (x j)) (hy : ∀ j, W64 (y j)) (i : Int) (hq : q < n) :
    sub n x (zRem y q i) = (sub n x y && !hasW (x q) i) := by
  rw [Bool.eq_iff_iff, Bool.and_eq_true, sub_bits hx (zRem_fits hy q i), sub_bits hx hy, hasW_eq (hx q), Bool.not_eq_true']
  constructor
  · intro h
    refine ⟨fun k hk j hj => ?_, ?_⟩
    · have := h k hk j hj
      rw [bit_zRem hy, Bool.and_eq_true] at this; exact this.1
    · cases hb : bit (x q) (plc i) with
      | false => rfl
      | true =>
        have := h q hq _ hb
        rw [bit_zRem hy] at this
        simp at this
  · rintro ⟨h1, h2⟩ k hk j hj
    rw [bit_zRem hy, h1 k hk j hj]
    by_cases e : k = q ∧ j = plc i
    · obtain ⟨rfl, rfl⟩ := e
      rw [h2] at hj; cases hj
    · simp [e]
end Go.Proofs.Qxb6602474a
