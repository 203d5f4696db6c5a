/- Escaping, said plainly: a byte's token, a text's tokens, their length. No Go in sight. -/
namespace Go.Proofs.Qxb6601396a

/-- An upper-case hex digit. -/
def hexd (n : Nat) : UInt8 := UInt8.ofNat (if n < 10 then 48 + n else 55 + n)
/-- A byte's token: itself where it is allowed, else a percent sign and two hex digits. -/
def tok (al : Nat → Bool) (b : UInt8) : List UInt8 := if al b.toNat then [b] else [37, hexd (b.toNat / 16), hexd (b.toNat % 16)]
def esc (al : Nat → Bool) (l : List UInt8) : List UInt8 := l.flatMap (tok al)
/-- How many bytes are escaped. -/
def cnt (al : Nat → Bool) (l : List UInt8) : Nat := (l.filter (fun b => !al b.toNat)).length

theorem esc_nil (al : Nat → Bool) : esc al [] = [] := rfl
theorem esc_append (al : Nat → Bool) (l m : List UInt8) : esc al (l ++ m) = esc al l ++ esc al m := by simp [esc]
theorem esc_one (al : Nat → Bool) (b : UInt8) : esc al [b] = tok al b := by simp [esc]
theorem esc_snoc (al : Nat → Bool) (l : List UInt8) (b : UInt8) : esc al (l ++ [b]) = esc al l ++ tok al b := by rw [esc_append, esc_one]
theorem esc_cons (al : Nat → Bool) (l : List UInt8) (b : UInt8) : esc al (b :: l) = tok al b ++ esc al l := by simp [esc]
theorem tok_yes {al : Nat → Bool} {b : UInt8} (h : al b.toNat = true) : tok al b = [b] := by simp [tok, h]
theorem tok_no {al : Nat → Bool} {b : UInt8} (h : al b.toNat = false) : tok al b = [37, hexd (b.toNat / 16), hexd (b.toNat % 16)] := by simp [tok, h]
theorem cnt_snoc_no {al : Nat → Bool} {b : UInt8} (l : List UInt8) (h : al b.toNat = false) : cnt al (l ++ [b]) = cnt al l + 1 := by simp [cnt, h]
theorem cnt_snoc_yes {al : Nat → Bool} {b : UInt8} (l : List UInt8) (h : al b.toNat = true) : cnt al (l ++ [b]) = cnt al l := by simp [cnt, h]
theorem cnt_le (al : Nat → Bool) (l : List UInt8) : cnt al l ≤ l.length := List.length_filter_le _ _
theorem esc_length (al : Nat → Bool) (l : List UInt8) : (esc al l).length = l.length + 2 * cnt al l := by
  induction l with
  | nil => rfl
  | cons b l ih =>
    rw [esc_cons, List.length_append, ih]
    cases h : al b.toNat with
    | true => rw [tok_yes h]; simp [cnt, h]; omega
    | false => rw [tok_no h]; simp [cnt, h]; omega
theorem esc_same {al : Nat → Bool} {l : List UInt8} (h : cnt al l = 0) : esc al l = l := by
  induction l with
  | nil => rfl
  | cons b l ih =>
    cases hb : al b.toNat with
    | true =>
      rw [esc_cons, tok_yes hb, ih (by simpa [cnt, hb] using h)]; rfl
    | false => simp [cnt, hb] at h
theorem hexd_toNat {n : Nat} (h : n < 16) : (hexd n).toNat = if n < 10 then 48 + n else 55 + n := by
  unfold hexd
  split <;> exact UInt8.toNat_ofNat_of_lt' (by show _ < 256; omega)

theorem take_snoc (s : ByteArray) (k : Nat) (h : k < s.size) : s.data.toList.take (k + 1) = s.data.toList.take k ++ [s[k]] := by
  rw [List.take_succ_eq_append_getElem (by simpa using h)]; rfl
end Go.Proofs.Qxb6601396a
