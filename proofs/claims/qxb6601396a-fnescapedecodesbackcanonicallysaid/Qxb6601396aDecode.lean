/- The walk of FnEscapeDecodesBackCanonically (function 3). -/
import Derived.Test.Qxb6601396aLength
namespace Go.Proofs.Qxb6601396a
open Go.ChangeShapes Go.WideShapes Go.ChangeAt Go.RowKit

/-! ### Plain facts: the token at the place where the first k tokens end -/
theorem esc_split {al : Nat → Bool} {s t : ByteArray} (h : t.data.toList = esc al s.data.toList) (k : Nat) (hk : k < s.size) :
    t.data.toList = esc al (s.data.toList.take k) ++ (tok al s[k] ++ esc al (s.data.toList.drop (k + 1))) := by
  rw [h]
  have e : s.data.toList = s.data.toList.take k ++ (s[k] :: s.data.toList.drop (k + 1)) := by
    have hk' : k < s.data.toList.length := by simpa using hk
    have := List.drop_eq_getElem_cons hk'
    have e2 : s[k] = s.data.toList[k] := rfl
    rw [e2, ← this, List.take_append_drop]
  conv => lhs; rw [e]
  rw [esc_append, esc_cons]
theorem at_list (t : ByteArray) (p : Nat) (hp : p < t.size) (l m : List UInt8) (h : t.data.toList = l ++ m) (hl : l.length ≤ p) (c : UInt8) (hc : m[p - l.length]? = some c) : t[p] = c := by
  have e : t[p] = t.data.toList[p]'(by simpa using hp) := rfl
  have e2 : t.data.toList[p]? = some c := by
    rw [h, List.getElem?_append_right hl]; exact hc
  rw [e]
  have := (List.getElem?_eq_some_iff.1 e2).2
  exact this
/-- Where k tokens end, while k < len(s). -/
def ends (al : Nat → Bool) (s : ByteArray) (k : Nat) : Nat := (esc al (s.data.toList.take k)).length
theorem ends_zero (al : Nat → Bool) (s : ByteArray) : ends al s 0 = 0 := rfl
theorem ends_all {al : Nat → Bool} {s t : ByteArray} (h : t.data.toList = esc al s.data.toList) {k : Nat} (hk : s.size ≤ k) : ends al s k = t.size := by
  unfold ends
  rw [List.take_of_length_le (by simpa using hk), ← h, ← size_list]
theorem ends_yes {al : Nat → Bool} {s : ByteArray} {k x : Nat} (hk : k < s.size) (hx : s[k].toNat = x) (ha : al x = true) : ends al s (k + 1) = ends al s k + 1 := by
  unfold ends
  rw [take_snoc s k hk, esc_snoc, tok_yes (by rw [hx]; exact ha)]; simp
theorem ends_no {al : Nat → Bool} {s : ByteArray} {k x : Nat} (hk : k < s.size) (hx : s[k].toNat = x) (ha : al x = false) : ends al s (k + 1) = ends al s k + 3 := by
  unfold ends
  rw [take_snoc s k hk, esc_snoc, tok_no (by rw [hx]; exact ha)]; simp
theorem here_yes {al : Nat → Bool} {s t : ByteArray} (h : t.data.toList = esc al s.data.toList) {k x : Nat} (hk : k < s.size) (hx : s[k].toNat = x) (ha : al x = true) :
    ∃ hp : ends al s k < t.size, (t[ends al s k]'hp).toNat = x := by
  have e := esc_split h k hk
  rw [tok_yes (by rw [hx]; exact ha)] at e
  have hp : ends al s k < t.size := by rw [size_list, e]; unfold ends; simp
  refine ⟨hp, ?_⟩
  rw [at_list t _ hp _ _ e (Nat.le_refl _) s[k] (by simp [ends])]
  exact hx
theorem here_no {al : Nat → Bool} {s t : ByteArray} (h : t.data.toList = esc al s.data.toList) {k x : Nat} (hk : k < s.size) (hx : s[k].toNat = x) (ha : al x = false) :
    ∃ hp : ends al s k + 2 < t.size, (t[ends al s k]'(by omega)).toNat = 37 ∧ (t[ends al s k + 1]'(by omega)).toNat = (hexd (x / 16)).toNat ∧ (t[ends al s k + 2]'hp).toNat = (hexd (x % 16)).toNat := by
  have e := esc_split h k hk
  rw [tok_no (by rw [hx]; exact ha), hx] at e
  have hp : ends al s k + 2 < t.size := by rw [size_list, e]; unfold ends; simp
  have g0 : t[ends al s k]'(by omega) = 37 := at_list t (ends al s k) (by omega) _ _ e (Nat.le_refl _) 37 (by simp [ends])
  have g1 : t[ends al s k + 1]'(by omega) = hexd (x / 16) := at_list t (ends al s k + 1) (by omega) _ _ e (by unfold ends; omega) (hexd (x / 16)) (by simp [ends])
  have g2 : t[ends al s k + 2]'hp = hexd (x % 16) := at_list t (ends al s k + 2) hp _ _ e (by unfold ends; omega) (hexd (x % 16)) (by simp [ends])
  exact ⟨hp, by rw [g0]; rfl, by rw [g1], by rw [g2]⟩
theorem here_yes' {al : Nat → Bool} {s t : ByteArray} (h : t.data.toList = esc al s.data.toList) {k x p : Nat} (hk : k < s.size) (hx : s[k].toNat = x) (ha : al x = true) (hpe : ends al s k = p) :
    ∃ hp : p < t.size, (t[p]'hp).toNat = x := by
  subst hpe; exact here_yes h hk hx ha
theorem here_no' {al : Nat → Bool} {s t : ByteArray} (h : t.data.toList = esc al s.data.toList) {k x p : Nat} (hk : k < s.size) (hx : s[k].toNat = x) (ha : al x = false) (hpe : ends al s k = p) :
    ∃ hp : p + 2 < t.size, (t[p]'(by omega)).toNat = 37 ∧ (t[p + 1]'(by omega)).toNat = (hexd (x / 16)).toNat ∧ (t[p + 2]'hp).toNat = (hexd (x % 16)).toNat := by
  subst hpe; exact here_no h hk hx ha

/-! ### The walks -/
theorem ret_int {k : IntKind} {a b : Int} (h : a = b) : Ending.returned (.int k a) = .returned (.int k b) := by rw [h]

set_option maxHeartbeats 400000 in
theorem hexval_any (y n : Nat) (hn : n < 16) (hy : y = if n < 10 then 48 + n else 55 + n) (w : World) :
    Calls Try.prog 7 #[.int .u8 (y : Int)] w fun e w' => e = .returned (.int .i64 (n : Int)) ∧ w' = w := by
  by_cases h : n < 10
  · rw [if_pos h] at hy
    have q1 : 48 ≤ y := by omega
    have q2 : y ≤ 57 := by omega
    have HY : Hid (y = 48 + n) := hy
    clear hy
    go_enter Try.func7, Try.ntmps7
    go_wp2
    go_ret
    exact ⟨ret_int (by have := HY.out; omega), rfl⟩
  · rw [if_neg h] at hy
    have q1 : 65 ≤ y := by omega
    have q2 : y ≤ 70 := by omega
    have d57 : decide ((y : Int) ≤ 57) = false := decide_eq_false (by omega)
    have d70 : decide ((y : Int) ≤ 70) = true := decide_eq_true (by omega)
    have HY : Hid (y = 55 + n) := hy
    clear hy
    go_enter Try.func7, Try.ntmps7
    go_wp2
    go_ret
    exact ⟨ret_int (by have := HY.out; omega), rfl⟩

set_option maxHeartbeats 400000 in
theorem bytes5 (s : ByteArray) (cs : Array Value) (hs : s.size ≤ 1048576) (w : World) :
    Calls Try.prog 5 #[.string s, .agg cs] w fun e w' => e = .returned (.bool true) ∧ Below w.heap.size w w' := by
  go_enter Try.func5, Try.ntmps5
  go_wp2
  go_ret
  exact ⟨rfl, (Below.refl _ _).alloc (Nat.le_refl _) _⟩
set_option maxHeartbeats 400000 in
theorem bytes5_no (s : ByteArray) (cs : Array Value) (hs : 1048576 < s.size) (hm : s.size ≤ 9223372036854775807) (w : World) :
    Calls Try.prog 5 #[.string s, .agg cs] w fun e w' => e = .returned (.bool false) ∧ Below w.heap.size w w' := by
  go_enter Try.func5, Try.ntmps5
  go_wp2
  go_ret
  exact ⟨rfl, (Below.refl _ _).alloc (Nat.le_refl _) _⟩

set_option maxHeartbeats 400000 in
theorem decode_early (s : ByteArray) (cs : Array Value) (hz : cs.size = 256) (hs : 1048576 < s.size) (hm : s.size ≤ 9223372036854775807) (w : World) :
    Calls Try.prog 3 #[.string s, .agg cs] w fun e w' => e = .returned (.bool true) ∧ Below w.heap.size w w' := by
  have hg1 := heap_alloc_new w (.cells cs 22)
  have hi1 := info22 hz
  go_enter Try.func3, Try.ntmps3
  go_wp2_with (refine wpList_load_row rfl 22 _ rfl w.heap.size rfl 22 cs (0, 0) _ hg1 Try.underlying22 rfl hi1 ?_)
  refine (bytes5_no s cs hs hm _).mono ?_
  rintro e w2 ⟨rfl, hb⟩
  clear hg1 hi1
  go_wp2
  go_ret
  exact ⟨rfl, ((Below.refl _ _).alloc (Nat.le_refl _) _).trans (hb.mono (by simp))⟩

theorem join_u8 (x : Nat) (h : x < 256) : IntKind.u8.wrap (((x / 16 : Nat) : Int) * 16 + ((x % 16 : Nat) : Int)) = (x : Int) := by
  rw [IntKind.wrap_u8]; omega

set_option maxRecDepth 100000 in
set_option maxHeartbeats 1000000 in
theorem decode_core (s : ByteArray) (cs : Array Value) (al : Nat → Bool) (hS : SetIs cs al) (hs : s.size ≤ 1048576) (w : World) :
    Calls Try.prog 3 #[.string s, .agg cs] w fun e w' => e = .returned (.bool true) ∧ Below w.heap.size w w' := by
  have hg1 := heap_alloc_new w (.cells cs 22)
  have hi1 := info22 hS.1
  have hA := hS.boxed w
  go_enter Try.func3, Try.ntmps3
  go_wp2_with (refine wpList_load_row rfl 22 _ rfl w.heap.size rfl 22 cs (0, 0) _ hg1 Try.underlying22 rfl hi1 ?_)
  refine (bytes5 s cs hs _).mono ?_
  rintro e w2 ⟨rfl, hb⟩
  replace hA := hA.kept (by simp) hb
  have hsz : w.heap.size < w2.heap.size := by have := hb.size; simp at this; omega
  have hbel : Below w.heap.size w w2 := ((Below.refl _ _).alloc (Nat.le_refl _) _).trans (hb.mono (by simp))
  clear hg1 hi1 hb hS
  have c37 := hA 37 (by omega)
  cases ha37 : al 37 with
  | true =>
    go_wp2
    go_ret
    exact ⟨rfl, hbel⟩
  | false =>
    go_wp2_with fail
    refine (zzescape_any s w.heap.size al w2 hs hsz hA).mono ?_
    rintro e w3 ⟨t, rfl, ht, hb3⟩
    have HT : Hid (t.data.toList = esc al s.data.toList) := ht
    have hts := esc_size ht
    have hcl := cnt_le al s.data.toList
    rw [← size_list] at hcl
    have htb : t.size ≤ 4000000 := by omega
    replace hA := hA.kept hsz hb3
    have hbel3 := hbel.trans (hb3.mono (by omega))
    clear ht hts hcl hbel hb3 hsz c37
    go_wp2
    go_loop [6, 7] (fun i j => ∃ k : Nat, k ≤ s.size ∧ j = .int .i64 k ∧ i = .int .i64 (ends al s k)) (fun _ j => s.size - (intOf j).toNat)
    case atStart => exact ⟨0, Nat.zero_le _, rfl, rfl⟩
    case round =>
      obtain ⟨k, hk, rfl, rfl⟩ := hrel
      by_cases hlt : k < s.size
      · have l1 : (k : Int) < (s.size : Int) := by omega
        obtain ⟨x, hx⟩ : ∃ x : Nat, s[k].toNat = x := ⟨_, rfl⟩
        have hu : x < 256 := by rw [← hx]; exact s[k].toNat_lt
        have c1 := hA x hu
        cases ha : al x with
        | true =>
          obtain ⟨p, hpe⟩ : ∃ p, ends al s k = p := ⟨_, rfl⟩
          obtain ⟨hp, hy⟩ := here_yes' HT.out hlt hx ha hpe
          have HE : Hid (ends al s (k + 1) = p + 1) := by unfold Hid; rw [ends_yes hlt hx ha, hpe]
          have hn37 : ((x : Int) == 37) = false := by
            simp
            intro e
            have e' : x = 37 := by omega
            rw [e', ha37] at ha; cases ha
          rw [hpe]
          have lp : (p : Int) < (t.size : Int) := by omega
          clear hpe hA ha37
          go_wp2
          go_round
          case rel => exact ⟨k + 1, by omega, by go_num, by rw [HE.out]; go_num⟩
          case measure => simp [intOf]; omega
        | false =>
          obtain ⟨p, hpe⟩ : ∃ p, ends al s k = p := ⟨_, rfl⟩
          obtain ⟨hp, hy, hy1, hy2⟩ := here_no' HT.out hlt hx ha hpe
          have HE : Hid (ends al s (k + 1) = p + 3) := by unfold Hid; rw [ends_no hlt hx ha, hpe]
          rw [hpe]
          have lp : (p : Int) + 2 < (t.size : Int) := by omega
          obtain ⟨y1, hh1⟩ : ∃ y1, (hexd (x / 16)).toNat = y1 := ⟨_, rfl⟩
          obtain ⟨y2, hh2⟩ : ∃ y2, (hexd (x % 16)).toNat = y2 := ⟨_, rfl⟩
          rw [hh1] at hy1
          rw [hh2] at hy2
          have v1 : y1 = if x / 16 < 10 then 48 + x / 16 else 55 + x / 16 := by rw [← hh1]; exact hexd_toNat (by omega)
          have v2 : y2 = if x % 16 < 10 then 48 + x % 16 else 55 + x % 16 := by rw [← hh2]; exact hexd_toNat (by omega)
          have K1 := fun w => hexval_any y1 (x / 16) (by omega) v1 w
          have K2 := fun w => hexval_any y2 (x % 16) (by omega) v2 w
          have hj := join_u8 x hu
          clear hpe hA ha37 hh1 hh2 v1 v2
          go_wp2_with fail
          refine (K1 _).mono ?_
          rintro e w4 ⟨rfl, rfl⟩
          go_wp2_with fail
          refine (K2 _).mono ?_
          rintro e w5 ⟨rfl, rfl⟩
          clear K1 K2
          go_wp2
          go_round
          case rel => exact ⟨k + 1, by omega, by go_num, by rw [HE.out]; go_num⟩
          case measure => simp [intOf]; omega
      · have he := ends_all HT.out (k := k) (by omega)
        have ek : ((k : Int) == (s.size : Int)) = true := by simp; omega
        rw [he]
        clear he
        go_wp2
        go_ret
        exact ⟨rfl, hbel3⟩
end Go.Proofs.Qxb6601396a
