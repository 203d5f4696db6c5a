/-
  A proof of 'Rows.FnEscapeDecodesBackCanonicallySaid': the frame after the guide's own (proof-skeleton.mjs serves no array: typed by hand), the walk out of Qxb6601396aDecode.
-/
import Derived.Test.Qxb6601396aRows
import Derived.Test.Qxb6601396aDecode
import Derived.WalkKit
import Derived.ProofKit
import Derived.OpenShut
import Derived.ShutString
import Derived.ChangeOld
import Derived.Below
namespace Go.Proofs.Qxb6601396a.fnEscapeDecodesBackCanonically
open Go.ChangeShapes Go.WideShapes Go.ChangeAt Go.RowKit
open Go.ChangeMaps (open_string shut_string)
set_option linter.unusedVariables false

theorem own : ownKnob Try.prog.godebug = none := by kernel_rfl
theorem laidOut : laidOutB Try.prog = true := by kernel_rfl
theorem cells4 : Try.prog.cellsOf 4 = 1 := by kernel_rfl
theorem cells22 : Try.prog.cellsOf 22 = 256 := by kernel_rfl

/-- An array value's shape. -/
theorem okWide_set {w : World} {r : Reach} {base : Nat} {v : Value} (h : Value.okWide Try.prog w r base 22 v) : ∃ cs : Array Value, v = .agg cs ∧ cs.size = 256 := by
  simp only [Value.okWide, Try.underlying22] at h
  obtain ⟨cs, h1, h2, _⟩ := h
  exact ⟨cs, h1, by rw [h2, cells22]⟩

/-- The set that an array of 256 bools reads as. -/
theorem open_set {H : Type} {enc : TypeId × Value → H} {w : World} {base : Nat} {spare : Nat → Bool} {held : Bool} {cs : Array Value} {d : DataW H} {p : List MemPlace} (hz : cs.size = 256)
    (h : DataW.Trod enc Try.prog w base spare held 22 (.agg cs) d p) : ∃ al, SetIs cs al := by
  obtain ⟨fuel, hf⟩ := h
  obtain ⟨xs, m, _, _, _, hlen, hat⟩ := DataW.trod_array Try.underlying22 hf
  have one : ∀ i, i < 256 → ∃ b, cs[i]? = some (.bool b) := by
    intro i hi
    have h1 := hat i hi
    have hx : i < xs.length := by omega
    rw [List.getElem?_eq_getElem hx] at h1
    obtain ⟨b, hb, _⟩ := DataW.trod_bool Try.underlying4 h1
    refine ⟨b, ?_⟩
    rw [cells4] at hb
    have h2 := congrArg (fun l : List Value => l[0]?) hb
    simpa [Value.cells] using h2
  refine ⟨fun i => match cs[i]? with | some (.bool b) => b | _ => false, hz, fun i hi => ?_⟩
  obtain ⟨b, hb⟩ := one i hi
  simp only [hb]

/-! ### THE WALK -/
theorem walk (s : ByteArray) (cs : Array Value) (al : Nat → Bool) (hs : s.size ≤ maxLen) (hS : SetIs cs al) (w : World) :
    Calls Try.prog 3 #[.string s, .agg cs] w fun e w' => e = .returned (.bool true) ∧ Below w.heap.size w w' := by
  unfold maxLen at hs
  by_cases h : s.size ≤ 1048576
  · exact decode_core s cs al hS h w
  · exact decode_early s cs hS.1 (by omega) hs w

/-! ### THE ROW's STEP -/
set_option maxRecDepth 100000 in
theorem lifted (os : Os) (started : os.Started) (H : Type) (enc : TypeId × Value → H) :
    ReturnsInHanded {} Try.checked os 3 .any (Rows.fnEscapeDecodesBackCanonicallySpec.pre6 enc Try.prog Try.f3 Rows.fnEscapeDecodesBackCanonicallyRow.domain false) (Rows.fnEscapeDecodesBackCanonicallySpec.post enc Try.prog Try.f3 false true false false) := by
  refine returnsInHanded_of_change (C := Try.checked) own started (by kernel_rfl) Try.func3
    (ChangeSpec.witness6 (enc := enc) (C := Try.checked) false ⟨#[], #[.string ByteArray.empty, .agg (Array.replicate 256 (.bool false))], []⟩ 8 (by kernel_rfl) (by kernel_rfl) (by kernel_rfl) (by kernel_rfl)) ?_
  intro W base args ds gs before hval0 hW hcnd _
  have hval : ∀ (j : Nat) t v, Try.f3.params[j]? = some t → args[j]? = some v → Value.okWide Try.prog W .any base t v := hval0
  have hW' := hW
  obtain ⟨p, q, hA0, hV, rfl, hfz, hnd⟩ := hW
  have hA : DataW.TrodAll enc Try.prog W 0 (fun _ => true) true Try.f3.params.toList args.toList ds p := hA0
  rw [Try.params3] at hA hval
  obtain ⟨v0, vs0, d0, ds0, p0, q0, hargs, rfl, rfl, h0, r0⟩ := trodAll_cons hA
  obtain ⟨v1, vs1, d1, ds1, p1, q1, rfl, rfl, rfl, h1, r1⟩ := trodAll_cons r0
  obtain ⟨rfl, rfl, rfl⟩ := trodAll_nil r1
  obtain rfl : args = #[v0, v1] := by cases args; simp_all
  obtain ⟨rfl, rfl⟩ := trodVars_none hV
  have k0 := h0
  have lt0 : ∀ x ∈ p0, x.block < W.heap.size := by obtain ⟨m, hm⟩ := k0; exact DataW.trod_lt m _ _ _ hm
  have k1 := h1
  have lt1 : ∀ x ∈ p1, x.block < W.heap.size := by obtain ⟨m, hm⟩ := k1; exact DataW.trod_lt m _ _ _ hm
  obtain ⟨a0, rfl, rfl, rfl, w0⟩ := open_string Try.underlying9 (hval 0 9 v0 rfl rfl) h0
  obtain ⟨cs, rfl, hz⟩ := okWide_set (hval 1 22 v1 rfl rfl)
  obtain ⟨al, hS⟩ := open_set hz h1
  clear hA0 hval0
  refine (walk a0 cs al w0 hS W).mono fun e W' ⟨he, bel⟩ => ?_
  subst he
  exact ⟨_, rfl, _, _, _, [], _, [], hW', trodAll_mk1 (shut_bool Try.underlying4 _), (trodAll_cons_mk (Below.trod laidOut (by kernel_rfl) (of_decide_eq_true (by kernel_rfl)) k0 bel lt0) (trodAll_cons_mk (Below.trod laidOut (by kernel_rfl) (of_decide_eq_true (by kernel_rfl)) k1 bel lt1) trodAll_mk0)), rfl, bel.frame _, fun h => by cases h⟩

theorem over : Rows.fnEscapeDecodesBackCanonicallyRow.holds Try.pinned (OpenSpec.ofChange Rows.fnEscapeDecodesBackCanonicallySpec) :=
  OpenClaim.holds_of_wide 3 Try.f3 rfl rfl rfl rfl rfl rfl rfl ⟨rfl, rfl, rfl, rfl, rfl⟩ rfl rfl rfl rfl rfl (by kernel_rfl) Try.func3 (by kernel_rfl)
    (of_decide_eq_true (by kernel_rfl)) (by unfold Func.isWrapper; first | (rw [if_pos (by decide +kernel)]; kernel_rfl) | (rw [if_neg (by decide +kernel)]; exact ⟨rfl, rfl⟩))
    (fun os started H enc _ => lifted os started H enc)

theorem proved : Rows.FnEscapeDecodesBackCanonicallySaid := over
end Go.Proofs.Qxb6601396a.fnEscapeDecodesBackCanonically
namespace Go.Proofs.Qxb6601396a
theorem decodes_back_proved : Rows.FnEscapeDecodesBackCanonicallySaid := fnEscapeDecodesBackCanonically.proved
end Go.Proofs.Qxb6601396a
