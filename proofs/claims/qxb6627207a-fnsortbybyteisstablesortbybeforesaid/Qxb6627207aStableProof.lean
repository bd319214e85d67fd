/-
  Proof of Rows.FnSortByByteIsStableSortByBeforeSaid.
-/
import Derived.Test.Qxb6627207aRows
import Derived.Test.Qxb6627207aOpen
import Derived.Test.Qxb6627207aLaw3
import Derived.WalkKit
import Derived.ProofKit
import Derived.OpenShut
import Derived.ChangeOld
import Derived.Below
namespace Go.Proofs.Qxb6627207a.stableProof
open Go.ChangeShapes Go.WideShapes Go.ChangeAt Go.RowKit
set_option linter.unusedVariables false

theorem own : ownKnob Try.prog.godebug = none := by kernel_rfl
theorem laidOut : laidOutB Try.prog = true := by kernel_rfl

/-! ### the walk: the Go text returns true and writes nothing that was there -/
theorem walk (a0 : Option Addr) (len0 cap0 : Nat) (f0 : Nat → Pd) (a1 : Option Addr) (len1 cap1 : Nat) (f1 : Nat → Pd) (w : World) (w0 : IsPends w a0 len0 cap0 f0) (w1 : IsPends w a1 len1 cap1 f1) :
    Calls Try.prog 3 #[.slice a0 len0 cap0, .slice a1 len1 cap1] w fun e w' => e = .returned (.bool true) ∧ Below w.heap.size w w' := by
  obtain ⟨hl0, hm0, hc0, hb0⟩ := w0
  obtain ⟨hl1, hm1, hc1, hb1⟩ := w1
  by_cases h : 4096 < len0 ∨ 4096 < len1 ∨ len0 = 0 ∨ len1 < len0
  · exact (law3_early a0 a1 len0 cap0 len1 cap1 (by omega) (by omega) h w).mono fun e w' ⟨he, hw⟩ => ⟨he, by rw [hw]; exact Below.refl _ _⟩
  · have e1 : 1 ≤ len0 ∧ len0 ≤ len1 ∧ len1 ≤ 4096 := by clear hc0 hc1 hb0 hb1; omega
    obtain ⟨b, o, rfl, hbl, hh⟩ := hc0 e1.1
    obtain ⟨b', o', rfl, hbl', hh'⟩ := hc1 (Nat.lt_of_lt_of_le e1.1 e1.2.1)
    exact law3_main b o cap0 b' o' cap1 len0 len1 f0 f1 w e1.1 e1.2.1 e1.2.2 hl1 hbl hbl' hh hh' hb0

set_option maxRecDepth 100000 in
theorem lifted (os : Os) (started : os.Started) (H : Type) (enc : TypeId × Value → H) :
    ReturnsInHanded {} Try.checked os 3 .any (Rows.fnSortByByteIsStableSortByBeforeSpec.pre6 enc Try.prog Try.f3 Rows.fnSortByByteIsStableSortByBeforeRow.domain false) (Rows.fnSortByByteIsStableSortByBeforeSpec.post enc Try.prog Try.f3 false true false false) := by
  refine returnsInHanded_of_change (C := Try.checked) own started (by kernel_rfl) Try.func3
    (ChangeSpec.witness6 (enc := enc) (C := Try.checked) false ⟨#[], #[.slice none 0 0, .slice none 0 0], []⟩ 8 (by kernel_rfl) (by kernel_rfl) (by kernel_rfl) (by kernel_rfl)) ?_
  intro W base args ds gs before hval0 hW hcnd _
  have hval : ∀ (j : Nat) t v, Try.f3.params[j]? = some t → args[j]? = some v → Value.okWide Try.prog W .any base t v := hval0
  have hW' := hW
  obtain ⟨p, q, hA0, hV, rfl, hfz, hnd⟩ := hW
  have hA : DataW.TrodAll enc Try.prog W 0 (fun _ => true) true Try.f3.params.toList args.toList ds p := hA0
  rw [Try.params3] at hA hval
  obtain ⟨v0, vs0, d0, ds0, p0, q0, hargs, rfl, rfl, h0, r0⟩ := trodAll_cons hA
  obtain ⟨v1, vs1, d1, ds1, p1, q1, rfl, rfl, rfl, h1, r1⟩ := trodAll_cons r0
  obtain ⟨rfl, rfl, rfl⟩ := trodAll_nil r1
  obtain rfl : args = #[v0, v1] := by cases args; simp_all
  obtain ⟨rfl, rfl⟩ := trodVars_none hV
  obtain ⟨a0, len0, cap0, rfl⟩ := okWide_slice Try.underlying22 (hval 0 22 v0 rfl rfl)
  obtain ⟨a1, len1, cap1, rfl⟩ := okWide_slice Try.underlying22 (hval 1 22 v1 rfl rfl)
  have k0 := h0
  have k1 := h1
  have lt0 : ∀ x ∈ p0, x.block < W.heap.size := by obtain ⟨m, hm⟩ := k0; exact DataW.trod_lt m _ _ _ hm
  have lt1 : ∀ x ∈ p1, x.block < W.heap.size := by obtain ⟨m, hm⟩ := k1; exact DataW.trod_lt m _ _ _ hm
  obtain ⟨f0, w0⟩ : ∃ f, IsPends W a0 len0 cap0 f := by
    obtain ⟨fuel, hf⟩ := h0
    exact open_pends (by simpa [Value.cells] using hf)
  obtain ⟨f1, w1⟩ : ∃ f, IsPends W a1 len1 cap1 f := by
    obtain ⟨fuel, hf⟩ := h1
    exact open_pends (by simpa [Value.cells] using hf)
  clear hA0 hval0
  refine (walk a0 len0 cap0 f0 a1 len1 cap1 f1 W w0 w1).mono fun e W' ⟨he, bel⟩ => ?_
  subst he
  exact ⟨_, rfl, _, _, _, [], _, [], hW', trodAll_mk1 (shut_bool Try.underlying4 _), (trodAll_cons_mk (Below.trod laidOut (by kernel_rfl) (of_decide_eq_true (by kernel_rfl)) k0 bel lt0) (trodAll_cons_mk (Below.trod laidOut (by kernel_rfl) (of_decide_eq_true (by kernel_rfl)) k1 bel lt1) trodAll_mk0)), rfl, bel.frame _, fun h => by cases h⟩

theorem over : Rows.fnSortByByteIsStableSortByBeforeRow.holds Try.pinned (OpenSpec.ofChange Rows.fnSortByByteIsStableSortByBeforeSpec) :=
  OpenClaim.holds_of_wide 3 Try.f3 rfl rfl rfl rfl rfl rfl rfl ⟨rfl, rfl, rfl, rfl, rfl⟩ rfl rfl rfl rfl rfl (by kernel_rfl) Try.func3 (by kernel_rfl)
    (of_decide_eq_true (by kernel_rfl)) (by unfold Func.isWrapper; first | (rw [if_pos (by decide +kernel)]; kernel_rfl) | (rw [if_neg (by decide +kernel)]; exact ⟨rfl, rfl⟩))
    (fun os started H enc _ => lifted os started H enc)

/-- THE STATEMENT -/
theorem proved : Rows.FnSortByByteIsStableSortByBeforeSaid := over
#print axioms proved
end Go.Proofs.Qxb6627207a.stableProof
