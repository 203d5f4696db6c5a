/- The walk of FnEscapeLengthAndAlphabet (function 4). -/
import Derived.Test.Qxb6601396aEscape
namespace Go.Proofs.Qxb6601396a
open Go.ChangeShapes Go.WideShapes Go.ChangeAt Go.RowKit

/-! ### Plain facts -/
theorem size_list (t : ByteArray) : t.size = t.data.toList.length := (Array.length_toList (xs := t.data)).symm
theorem esc_size {al : Nat → Bool} {s t : ByteArray} (h : t.data.toList = esc al s.data.toList) : t.size = s.size + 2 * cnt al s.data.toList := by
  rw [size_list t, h, esc_length, size_list s]
theorem esc_eq {al : Nat → Bool} {s t : ByteArray} (h : t.data.toList = esc al s.data.toList) (h0 : cnt al s.data.toList = 0) : t = s := by
  rw [esc_same h0] at h
  have e : t.data = s.data := Array.toList_inj.1 h
  cases t; cases s; simp_all
/-- Of what signs an escaped text is made. -/
def Sign (al : Nat → Bool) (y : Nat) : Prop := al y = true ∨ y = 37 ∨ (48 ≤ y ∧ y ≤ 57) ∨ (65 ≤ y ∧ y ≤ 70)
theorem hexd_sign (al : Nat → Bool) {n : Nat} (h : n < 16) : Sign al (hexd n).toNat := by
  rw [hexd_toNat h]
  split
  · exact .inr (.inr (.inl (by omega)))
  · exact .inr (.inr (.inr (by omega)))
theorem esc_signs {al : Nat → Bool} {l : List UInt8} {b : UInt8} (h : b ∈ esc al l) : Sign al b.toNat := by
  unfold esc at h
  rw [List.mem_flatMap] at h
  obtain ⟨c, _, hb⟩ := h
  have hc := c.toNat_lt
  cases ha : al c.toNat with
  | true =>
    rw [tok_yes ha] at hb
    simp at hb; subst hb
    exact .inl ha
  | false =>
    rw [tok_no ha] at hb
    simp at hb
    rcases hb with rfl | rfl | rfl
    · exact .inr (.inl rfl)
    · exact hexd_sign al (by omega)
    · exact hexd_sign al (by omega)
theorem sign_at {al : Nat → Bool} {s t : ByteArray} (h : t.data.toList = esc al s.data.toList) (p : Nat) (hp : p < t.size) : Sign al t[p].toNat := by
  apply esc_signs (l := s.data.toList)
  rw [← h]
  have : t[p] = t.data.toList[p]'(by simpa using hp) := rfl
  rw [this]; exact List.getElem_mem _

/-! ### The walks -/
/-- The cells of a set that came in by value. -/
def SetIs (cs : Array Value) (al : Nat → Bool) : Prop := cs.size = 256 ∧ ∀ i, i < 256 → cs[i]? = some (.bool (al i))
theorem SetIs.boxed {cs : Array Value} {al : Nat → Bool} (h : SetIs cs al) (w : World) : SetAt (w.alloc (.cells cs 22)) w.heap.size al := by
  intro i hi
  rw [cell_of_row _ w.heap.size i cs 22 (0, 0) (heap_alloc_new w _)]
  exact h.2 i hi
theorem SetAt.kept {w w' : World} {g : Nat} {al : Nat → Bool} (h : SetAt w g al) (hg : g < w.heap.size) (hb : Below w.heap.size w w') : SetAt w' g al :=
  fun i hi => (hb.cell (by exact hg)).trans (h i hi)
theorem info22 {cs : Array Value} (h : cs.size = 256) : (Try.prog.info? 22).map (·.size) = some cs.size := by rw [h]; kernel_rfl

set_option maxHeartbeats 400000 in
theorem bytes8 (s : ByteArray) (cs : Array Value) (hs : s.size ≤ 1048576) (w : World) :
    Calls Try.prog 8 #[.string s, .agg cs] w fun e w' => e = .returned (.bool true) ∧ Below w.heap.size w w' := by
  go_enter Try.func8, Try.ntmps8
  go_wp2
  go_ret
  exact ⟨rfl, (Below.refl _ _).alloc (Nat.le_refl _) _⟩
set_option maxHeartbeats 400000 in
theorem bytes8_no (s : ByteArray) (cs : Array Value) (hs : 1048576 < s.size) (hm : s.size ≤ 9223372036854775807) (w : World) :
    Calls Try.prog 8 #[.string s, .agg cs] w fun e w' => e = .returned (.bool false) ∧ Below w.heap.size w w' := by
  go_enter Try.func8, Try.ntmps8
  go_wp2
  go_ret
  exact ⟨rfl, (Below.refl _ _).alloc (Nat.le_refl _) _⟩

set_option maxHeartbeats 400000 in
theorem length_early (s : ByteArray) (cs : Array Value) (hz : cs.size = 256) (hs : 1048576 < s.size) (hm : s.size ≤ 9223372036854775807) (w : World) :
    Calls Try.prog 4 #[.string s, .agg cs] w fun e w' => e = .returned (.bool true) ∧ Below w.heap.size w w' := by
  have hg1 := heap_alloc_new w (.cells cs 22)
  have hi1 := info22 hz
  go_enter Try.func4, Try.ntmps4
  go_wp2_with (refine wpList_load_row rfl 22 _ rfl w.heap.size rfl 22 cs (0, 0) _ hg1 Try.underlying22 rfl hi1 ?_)
  refine (bytes8_no s cs hs hm _).mono ?_
  rintro e w2 ⟨rfl, hb⟩
  clear hg1 hi1
  go_wp2
  go_ret
  exact ⟨rfl, ((Below.refl _ _).alloc (Nat.le_refl _) _).trans (hb.mono (by simp))⟩

set_option maxHeartbeats 1000000 in
theorem length_core (s : ByteArray) (cs : Array Value) (al : Nat → Bool) (hS : SetIs cs al) (hs : s.size ≤ 1048576) (w : World) :
    Calls Try.prog 4 #[.string s, .agg cs] w fun e w' => e = .returned (.bool true) ∧ Below w.heap.size w w' := by
  have hg1 := heap_alloc_new w (.cells cs 22)
  have hi1 := info22 hS.1
  have hA := hS.boxed w
  go_enter Try.func4, Try.ntmps4
  go_wp2_with (refine wpList_load_row rfl 22 _ rfl w.heap.size rfl 22 cs (0, 0) _ hg1 Try.underlying22 rfl hi1 ?_)
  refine (bytes8 s cs hs _).mono ?_
  rintro e w2 ⟨rfl, hb⟩
  replace hA := hA.kept (by simp) hb
  have hsz : w.heap.size < w2.heap.size := by have := hb.size; simp at this; omega
  have hbel : Below w.heap.size w w2 := ((Below.refl _ _).alloc (Nat.le_refl _) _).trans (hb.mono (by simp))
  clear hg1 hi1 hb hS
  go_wp2
  go_loop [5, 6] (fun n i => ∃ k : Nat, k ≤ s.size ∧ i = .int .i64 k ∧ n = .int .i64 (cnt al (s.data.toList.take k))) (fun _ i => s.size - (intOf i).toNat)
  case atStart => exact ⟨0, Nat.zero_le _, rfl, rfl⟩
  case round =>
    obtain ⟨k, hk, rfl, rfl⟩ := hrel
    have hcl := cnt_le al (s.data.toList.take k)
    have hll : (s.data.toList.take k).length ≤ k := List.length_take_le _ _
    obtain ⟨n, hn⟩ : ∃ n : Nat, cnt al (s.data.toList.take k) = n := ⟨_, rfl⟩
    rw [hn] at hcl ⊢
    have HN : Hid (cnt al (s.data.toList.take k) = n) := hn
    clear hn
    have hnk : n ≤ k := by omega
    clear hcl hll
    by_cases hlt : k < s.size
    · have l1 : (k : Int) < (s.size : Int) := by omega
      obtain ⟨x, hx⟩ : ∃ x : Nat, s[k].toNat = x := ⟨_, rfl⟩
      have hu : x < 256 := by rw [← hx]; exact s[k].toNat_lt
      have c1 := hA x hu
      clear hA
      cases ha : al x with
      | true =>
        have HR : Hid (cnt al (s.data.toList.take (k + 1)) = n) := by
          unfold Hid; rw [take_snoc s k hlt, cnt_snoc_yes _ (by rw [hx]; exact ha)]; exact HN.out
        go_wp2
        go_round
        case rel => exact ⟨k + 1, by omega, by go_num, by rw [HR.out]⟩
        case measure => simp [intOf]; omega
      | false =>
        have HR : Hid (cnt al (s.data.toList.take (k + 1)) = n + 1) := by
          unfold Hid; rw [take_snoc s k hlt, cnt_snoc_no _ (by rw [hx]; exact ha)]; rw [HN.out]
        go_wp2
        go_round
        case rel => exact ⟨k + 1, by omega, by go_num, by rw [HR.out]; go_num⟩
        case measure => simp [intOf]; omega
    · have HN' : Hid (cnt al s.data.toList = n) := by
        have h := HN.out
        rw [List.take_of_length_le (by simp; omega)] at h
        exact h
      clear HN
      go_wp2_with fail
      refine (zzescape_any s w.heap.size al w2 hs hsz hA).mono ?_
      rintro e w3 ⟨t, rfl, ht, hb3⟩
      have HT : Hid (t.data.toList = esc al s.data.toList) := ht
      have hts := esc_size ht
      rw [HN'.out] at hts
      have htb : t.size ≤ 4000000 := by omega
      have hne : ((t.size : Int) != (s.size : Int) + 2 * (n : Int)) = false := by simp; omega
      replace hA := hA.kept hsz hb3
      have hbel3 := hbel.trans (hb3.mono (by omega))
      by_cases h0 : n = 0
      · have e1 : ((n : Int) == 0) = true := by simp; omega
        have e2 : (t.toList == s.toList) = true := by rw [esc_eq ht (by rw [HN'.out]; exact h0)]; simp
        clear ht hts hbel hb3 hsz h0
        go_wp2
        go_loop [8] (fun i => ∃ p : Nat, p ≤ t.size ∧ i = .int .i64 p) (fun i => t.size - (intOf i).toNat)
        case atStart => exact ⟨0, Nat.zero_le _, rfl⟩
        case round =>
          obtain ⟨p, hp, rfl⟩ := hrel
          by_cases hlt : p < t.size
          · have l1 : (p : Int) < (t.size : Int) := by omega
            obtain ⟨y, hy⟩ : ∃ y : Nat, t[p].toNat = y := ⟨_, rfl⟩
            have hu : y < 256 := by rw [← hy]; exact t[p].toNat_lt
            have c1 := hA y hu
            have hs := sign_at HT.out p hlt
            rw [hy] at hs
            cases ha : al y with
            | true =>
              clear hs hA
              go_wp2
              go_round
              case rel => exact ⟨p + 1, by omega, by go_num⟩
              case measure => simp [intOf]; omega
            | false =>
              by_cases h37 : y = 37
              · have e37 : ((y : Int) == 37) = true := by simp; omega
                clear hs hA h37
                go_wp2
                go_round
                case rel => exact ⟨p + 1, by omega, by go_num⟩
                case measure => simp [intOf]; omega
              · have e37 : ((y : Int) == 37) = false := by simp; omega
                have hh : (48 ≤ y ∧ y ≤ 57) ∨ (65 ≤ y ∧ y ≤ 70) := by
                  rcases hs with h | h | h | h
                  · rw [ha] at h; cases h
                  · exact absurd h h37
                  · exact .inl h
                  · exact .inr h
                clear hs h37 hA
                rcases hh with ⟨q1, q2⟩ | ⟨q1, q2⟩
                · go_wp2
                  go_round
                  case rel => exact ⟨p + 1, by omega, by go_num⟩
                  case measure => simp [intOf]; omega
                · have d57 : decide ((y : Int) ≤ 57) = false := decide_eq_false (by omega)
                  have d70 : decide ((y : Int) ≤ 70) = true := decide_eq_true (by omega)
                  go_wp2
                  go_round
                  case rel => exact ⟨p + 1, by omega, by go_num⟩
                  case measure => simp [intOf]; omega
          · go_wp2
            go_ret
            exact ⟨rfl, hbel3⟩
      · have e1 : ((n : Int) == 0) = false := by simp; omega
        clear ht hts hbel hb3 hsz h0
        go_wp2
        go_loop [8] (fun i => ∃ p : Nat, p ≤ t.size ∧ i = .int .i64 p) (fun i => t.size - (intOf i).toNat)
        case atStart => exact ⟨0, Nat.zero_le _, rfl⟩
        case round =>
          obtain ⟨p, hp, rfl⟩ := hrel
          by_cases hlt : p < t.size
          · have l1 : (p : Int) < (t.size : Int) := by omega
            obtain ⟨y, hy⟩ : ∃ y : Nat, t[p].toNat = y := ⟨_, rfl⟩
            have hu : y < 256 := by rw [← hy]; exact t[p].toNat_lt
            have c1 := hA y hu
            have hs := sign_at HT.out p hlt
            rw [hy] at hs
            cases ha : al y with
            | true =>
              clear hs hA
              go_wp2
              go_round
              case rel => exact ⟨p + 1, by omega, by go_num⟩
              case measure => simp [intOf]; omega
            | false =>
              by_cases h37 : y = 37
              · have e37 : ((y : Int) == 37) = true := by simp; omega
                clear hs hA h37
                go_wp2
                go_round
                case rel => exact ⟨p + 1, by omega, by go_num⟩
                case measure => simp [intOf]; omega
              · have e37 : ((y : Int) == 37) = false := by simp; omega
                have hh : (48 ≤ y ∧ y ≤ 57) ∨ (65 ≤ y ∧ y ≤ 70) := by
                  rcases hs with h | h | h | h
                  · rw [ha] at h; cases h
                  · exact absurd h h37
                  · exact .inl h
                  · exact .inr h
                clear hs h37 hA
                rcases hh with ⟨q1, q2⟩ | ⟨q1, q2⟩
                · go_wp2
                  go_round
                  case rel => exact ⟨p + 1, by omega, by go_num⟩
                  case measure => simp [intOf]; omega
                · have d57 : decide ((y : Int) ≤ 57) = false := decide_eq_false (by omega)
                  have d70 : decide ((y : Int) ≤ 70) = true := decide_eq_true (by omega)
                  go_wp2
                  go_round
                  case rel => exact ⟨p + 1, by omega, by go_num⟩
                  case measure => simp [intOf]; omega
          · go_wp2
            go_ret
            exact ⟨rfl, hbel3⟩
end Go.Proofs.Qxb6601396a
