/- The contracts of escape (function 9) and of ZZEscape (6): whatever the text and the set, it hands back the text's tokens; nothing that was there has turned. -/
import Derived.Test.Qxb6601396aRows
import Derived.Test.Qxb6601396aShelf
import Derived.Test.Qxb6601396aPlain
import Derived.WalkKit
import Derived.ProofKit
import Derived.OpenShut
import Derived.WalkSpells
import Derived.WalkSmall
import Derived.WalkLawsBesides
import Derived.Deep.QuietTactic
import Derived.BigQuiet
namespace Go.Proofs.Qxb6601396a
open Go.ChangeShapes Go.WideShapes Go.ChangeAt Go.RowKit

/-- The set lies at block g: cell i says whether byte i is allowed. -/
def SetAt (w : World) (g : Nat) (al : Nat → Bool) : Prop := ∀ i, i < 256 → w.cell? ⟨g, i, none⟩ = some (.bool (al i))

theorem grow_int (B b : Nat) (m : Int) (n : Nat) (hm : m = n) (w : World) (hB : B ≤ b) (hbk : w.heap[b]? = some (.cells #[.pointer none, .slice none 0 0] 32 (0, 0))) (hBw : B ≤ w.heap.size) (hn : n ≤ 281474976710656) :
    Calls Try.prog 10 #[.pointer (some ⟨b, 0, none⟩), .int .i64 m] w fun e w' => e = .returned (.tuple #[]) ∧ (Lib.BuilderAt 32 5 B b (.pointer (some ⟨b, 0, none⟩)) [] w' ∧ Below B w w') := by
  subst hm
  exact Try.Builder_Grow_fresh B b n w hB hbk hBw hn

theorem cells_snoc (l : List UInt8) (b : UInt8) : Lib.byteCells (l ++ [b]) = Lib.byteCells l ++ [.int .u8 b.toNat] := by simp [Lib.byteCells]
theorem next_yes {al : Nat → Bool} {s : ByteArray} {k x : Nat} {bs : List Value} (hbs : Lib.byteCells (esc al (s.data.toList.take k)) = bs) (hlt : k < s.size) (hx : s[k].toNat = x) (ha : al x = true) :
    Lib.byteCells (esc al (s.data.toList.take (k + 1))) = bs ++ [.int .u8 x] := by
  rw [take_snoc s k hlt, esc_snoc, tok_yes (by rw [hx]; exact ha), cells_snoc, hbs, hx]

/-- The text's own table of digits. -/
theorem digit_at (n : Nat) (h : n < 16) : ((⟨#[48, 49, 50, 51, 52, 53, 54, 55, 56, 57, 65, 66, 67, 68, 69, 70]⟩ : ByteArray)[n]'h).toNat = (hexd n).toNat := by
  have key : ∀ m : Fin 16, ((⟨#[48, 49, 50, 51, 52, 53, 54, 55, 56, 57, 65, 66, 67, 68, 69, 70]⟩ : ByteArray)[m.val]'m.isLt).toNat = (hexd m.val).toNat := by decide
  exact key ⟨n, h⟩
theorem next_no {al : Nat → Bool} {s : ByteArray} {k x : Nat} {bs : List Value} (hbs : Lib.byteCells (esc al (s.data.toList.take k)) = bs) (hlt : k < s.size) (hx : s[k].toNat = x) (ha : al x = false) (hu : x < 256) :
    Lib.byteCells (esc al (s.data.toList.take (k + 1))) = bs ++ [.int .u8 37] ++
      [.int .u8 (((⟨#[48, 49, 50, 51, 52, 53, 54, 55, 56, 57, 65, 66, 67, 68, 69, 70]⟩ : ByteArray)[x / 16]'(by show x / 16 < 16; omega)).toNat)] ++
      [.int .u8 (((⟨#[48, 49, 50, 51, 52, 53, 54, 55, 56, 57, 65, 66, 67, 68, 69, 70]⟩ : ByteArray)[x % 16]'(by show x % 16 < 16; omega)).toNat)] := by
  rw [take_snoc s k hlt, esc_snoc, tok_no (by rw [hx]; exact ha), digit_at _ (by omega), digit_at _ (by omega), ← hbs, hx]
  simp [Lib.byteCells]

set_option maxHeartbeats 1000000 in
theorem escape_any (s : ByteArray) (g : Nat) (al : Nat → Bool) (w : World) (hs : s.size ≤ 1048576) (hg : g < w.heap.size) (hA : SetAt w g al) :
    Calls Try.prog 9 #[.string s, .pointer (some ⟨g, 0, none⟩)] w fun e w' => ∃ t : ByteArray, e = .returned (.string t) ∧ t.data.toList = esc al s.data.toList ∧ Below w.heap.size w w' := by
  go_enter Try.func9, Try.ntmps9
  go_wp2
  go_loopw [5, 12] (fun n i wr => ∃ k j : Nat, k ≤ s.size ∧ i = .int .i64 k ∧ wr = w.drewN j ∧ n = .int .i64 (cnt al (s.data.toList.take k))) (fun _ i _ => s.size - (intOf i).toNat)
  case atStart => exact ⟨0, 0, Nat.zero_le _, rfl, rfl, rfl⟩
  case round =>
    obtain ⟨k, j, hk, rfl, rfl, rfl⟩ := hrel
    have hcl := cnt_le al (s.data.toList.take k)
    have hll : (s.data.toList.take k).length ≤ k := List.length_take_le _ _
    obtain ⟨n, hn⟩ : ∃ n : Nat, cnt al (s.data.toList.take k) = n := ⟨_, rfl⟩
    rw [hn] at hcl ⊢
    have HN : Hid (cnt al (s.data.toList.take k) = n) := hn
    clear hn
    have hnk : n ≤ k := by omega
    clear hcl hll
    by_cases hlt : k < s.size
    · have l1 : (k : Int) < (s.size : Int) := by omega
      obtain ⟨x, hx⟩ : ∃ x : Nat, s[k].toNat = x := ⟨_, rfl⟩
      have HX : Hid (s[k].toNat = x) := hx
      have hu : x < 256 := by rw [← hx]; exact s[k].toNat_lt
      have c1 := hA x hu
      clear hA
      cases ha : al x with
      | true =>
        have HR : Hid (cnt al (s.data.toList.take (k + 1)) = n) := by
          unfold Hid; rw [take_snoc s k hlt, cnt_snoc_yes _ (by rw [hx]; exact ha)]; exact HN.out
        go_wp2
        go_quiet (fail)
        go_wp2
        go_roundw
        case rel => exact ⟨k + 1, _, by omega, by go_num, rfl, by rw [HR.out]⟩
        case measure => simp [intOf]; omega
      | false =>
        have HR : Hid (cnt al (s.data.toList.take (k + 1)) = n + 1) := by
          unfold Hid; rw [take_snoc s k hlt, cnt_snoc_no _ (by rw [hx]; exact ha)]; rw [HN.out]
        go_wp2
        go_quiet (fail)
        go_wp2
        go_roundw
        case rel => exact ⟨k + 1, _, by omega, by go_num, rfl, by rw [HR.out]; go_num⟩
        case measure => simp [intOf]; omega
    · have HN' : Hid (cnt al s.data.toList = n) := by
        have h := HN.out
        rw [List.take_of_length_le (by simp; omega)] at h
        exact h
      clear HN
      by_cases h0 : n = 0
      · have h0' : ((n : Int) == 0) = true := by simp; omega
        have H0 : Hid (n = 0) := h0
        clear h0
        go_wp2
        go_ret
        exact ⟨s, rfl, (esc_same (by rw [HN'.out]; exact H0.out)).symm, below_drewN (Below.refl _ _) j⟩
      · have h0' : ((n : Int) == 0) = false := by simp; omega
        clear h0
        have hN : (s.size : Int) + 2 * (n : Int) = ((s.size + 2 * n : Nat) : Int) := by omega
        have HNN : Hid ((s.size : Int) + 2 * (n : Int) = ((s.size + 2 * n : Nat) : Int)) := hN
        clear hN
        go_wp2_with fail
        refine (grow_int w.heap.size w.heap.size _ (s.size + 2 * n) HNN.out _ (Nat.le_refl _) ?hbk ?hbw (by omega)).mono ?_
        case hbk => exact heap_alloc_new (w.drewN j) _
        case hbw => simp
        rintro e w1 ⟨rfl, hI, hb1⟩
        have hbel : Below w.heap.size w w1 := ((below_drewN (Below.refl _ _) j).alloc (Nat.le_refl _) _).trans hb1
        clear hb1 HNN HN' h0'
        go_wp2_with fail
        go_loopw [37] (fun i wr => ∃ k : Nat, k ≤ s.size ∧ i = .int .i64 k ∧ Lib.BuilderAt 32 5 w.heap.size w.heap.size (.pointer (some ⟨w.heap.size, 0, none⟩)) (Lib.byteCells (esc al (s.data.toList.take k))) wr ∧ Below w.heap.size w wr) (fun i _ => s.size - (intOf i).toNat)
        case atStart => exact ⟨0, Nat.zero_le _, rfl, hI, hbel⟩
        case round =>
          obtain ⟨k, hk, rfl, hI, hbel⟩ := hrel
          have hln := esc_length al (s.data.toList.take k)
          have hcl := cnt_le al (s.data.toList.take k)
          have hll : (s.data.toList.take k).length ≤ k := List.length_take_le _ _
          obtain ⟨bs, hbs⟩ : ∃ bs, Lib.byteCells (esc al (s.data.toList.take k)) = bs := ⟨_, rfl⟩
          have hbl : bs.length ≤ 4000000 := by rw [← hbs]; simp [Lib.byteCells]; omega
          clear hln hcl hll
          rw [hbs] at hI
          have HB : Hid (Lib.byteCells (esc al (s.data.toList.take k)) = bs) := hbs
          clear hbs
          have hsz : w.heap.size ≤ wr.heap.size := hbel.size
          by_cases hlt : k < s.size
          · have l1 : (k : Int) < (s.size : Int) := by omega
            obtain ⟨x, hx⟩ : ∃ x : Nat, s[k].toNat = x := ⟨_, rfl⟩
            have HX : Hid (s[k].toNat = x) := hx
            have hu : x < 256 := by rw [← hx]; exact s[k].toNat_lt
            have c1 : wr.cell? ⟨g, x, none⟩ = some (.bool (al x)) := (hbel.cell (by show g < w.heap.size; exact hg)).trans (hA x hu)
            cases ha : al x with
            | true =>
              go_wp2_with fail
              refine (Try.Builder_WriteByte w.heap.size w.heap.size bs x wr (.inr hI) (by omega) hsz).mono ?_
              rintro e w2 ⟨rfl, hI2, hb2⟩
              have hbel2 := hbel.trans hb2
              clear hI hbel hb2 c1
              go_wp2
              go_roundw
              case rel => exact ⟨k + 1, by omega, by go_num, by rw [next_yes HB.out hlt HX.out ha]; exact hI2, hbel2⟩
              case measure => simp [intOf]; omega
            | false =>
              go_wp2_with fail
              refine (Try.Builder_WriteByte w.heap.size w.heap.size bs 37 wr (.inr hI) (by omega) hsz).mono ?_
              rintro e w2 ⟨rfl, hI2, hb2⟩
              have hbel2 := hbel.trans hb2
              have hsz2 : w.heap.size ≤ w2.heap.size := hbel2.size
              clear hI hbel hb2 c1 hsz
              have h15 : bits .and .u8 (x : Int) 15 = (x : Int) % 16 := u8_and15 _ (by omega) (by omega)
              go_wp2_with fail
              refine (Try.Builder_WriteByte w.heap.size w.heap.size _ _ w2 (.inr hI2) (by simp; omega) hsz2).mono ?_
              rintro e w3 ⟨rfl, hI3, hb3⟩
              have hbel3 := hbel2.trans hb3
              have hsz3 : w.heap.size ≤ w3.heap.size := hbel3.size
              clear hI2 hbel2 hb3 hsz2
              go_wp2_with fail
              refine (Try.Builder_WriteByte w.heap.size w.heap.size _ _ w3 (.inr hI3) (by simp; omega) hsz3).mono ?_
              rintro e w4 ⟨rfl, hI4, hb4⟩
              have hbel4 := hbel3.trans hb4
              clear hI3 hbel3 hb4 hsz3
              go_wp2
              go_roundw
              case rel => exact ⟨k + 1, by omega, by go_num, by rw [next_no HB.out hlt HX.out ha hu]; exact hI4, hbel4⟩
              case measure => simp [intOf]; omega
          · have HE : Hid (Lib.byteCells (esc al s.data.toList) = bs) := by
              have h := HB.out
              rw [List.take_of_length_le (by simp; omega)] at h
              exact h
            clear HB
            go_wp2_with fail
            refine (Try.Builder_String_any w.heap.size w.heap.size (esc al s.data.toList) wr (.inr (by rw [HE.out]; exact hI)) hsz).mono ?_
            rintro e w5 ⟨rfl, hb5⟩
            have hbel5 := hbel.trans hb5
            clear hI hbel hb5
            go_wp2
            go_ret
            exact ⟨_, rfl, by simp, hbel5⟩

theorem zzescape_any (s : ByteArray) (g : Nat) (al : Nat → Bool) (w : World) (hs : s.size ≤ 1048576) (hg : g < w.heap.size) (hA : SetAt w g al) :
    Calls Try.prog 6 #[.string s, .pointer (some ⟨g, 0, none⟩)] w fun e w' => ∃ t : ByteArray, e = .returned (.string t) ∧ t.data.toList = esc al s.data.toList ∧ Below w.heap.size w w' := by
  have K := escape_any s g al w hs hg hA
  go_enter Try.func6, Try.ntmps6
  go_wp2_with fail
  refine K.mono ?_
  rintro e w' ⟨t, rfl, ht, hb⟩
  have HT : Hid (t.data.toList = esc al s.data.toList) := ht
  clear ht
  go_wp2
  go_ret
  exact ⟨t, rfl, HT.out, hb⟩
end Go.Proofs.Qxb6601396a
