/-
  Proof of Rows.FnCloneACLEntriesTwiceGivesSeparateEqualCopiesSaid.
-/
import Derived.Test.Qxb6625486aRows
import Derived.Test.Qxb6625486aOpen
import Derived.Test.Qxb6625486aLaw3
import Derived.WalkKit
import Derived.ProofKit
import Derived.OpenShut
import Derived.ChangeOld
import Derived.Below
namespace Go.Proofs.Qxb6625486a.twiceProof
open Go.ChangeShapes Go.WideShapes Go.ChangeAt Go.RowKit
set_option linter.unusedVariables false

theorem own : ownKnob Try.prog.godebug = none := by kernel_rfl
theorem laidOut : laidOutB Try.prog = true := by kernel_rfl

/-! ### the walk: the Go text returns true and writes nothing that was there -/
theorem walk (a0 : Option Addr) (len0 cap0 : Nat) (f0 : Nat → En) (w : World) (w0 : IsEnts w a0 len0 cap0 f0) :
    Calls Try.prog 3 #[.slice a0 len0 cap0] w fun e w' => e = .returned (.bool true) ∧ Below w.heap.size w w' := by
  obtain ⟨hl0, hm0, hn0, hc0⟩ := w0
  by_cases h : 65536 < len0
  · exact (law3_early a0 len0 cap0 (Nat.le_trans hl0 hm0) h w).mono fun e w' ⟨he, hw⟩ => ⟨he, by rw [hw]; exact Below.refl _ _⟩
  · by_cases h0 : len0 = 0
    · cases a0 with
      | none => exact (law3_nil len0 cap0 h0 w).mono fun e w' ⟨he, hw⟩ => ⟨he, by rw [hw]; exact Below.refl _ _⟩
      | some ad => exact law3_empty ad len0 cap0 h0 w
    · obtain ⟨b, o, rfl, hbl, hh⟩ := hc0 (Nat.pos_of_ne_zero h0)
      exact law3_main b o cap0 len0 f0 w (Nat.pos_of_ne_zero h0) (Nat.le_of_not_lt h) hbl hh

set_option maxRecDepth 100000 in
theorem lifted (os : Os) (started : os.Started) (H : Type) (enc : TypeId × Value → H) :
    ReturnsInHanded {} Try.checked os 3 .any (Rows.fnCloneACLEntriesTwiceGivesSeparateEqualCopiesSpec.pre6 enc Try.prog Try.f3 Rows.fnCloneACLEntriesTwiceGivesSeparateEqualCopiesRow.domain false) (Rows.fnCloneACLEntriesTwiceGivesSeparateEqualCopiesSpec.post enc Try.prog Try.f3 false true false false) := by
  refine returnsInHanded_of_change (C := Try.checked) own started (by kernel_rfl) Try.func3
    (ChangeSpec.witness6 (enc := enc) (C := Try.checked) false ⟨#[], #[.slice none 0 0], []⟩ 8 (by kernel_rfl) (by kernel_rfl) (by kernel_rfl) (by kernel_rfl)) ?_
  intro W base args ds gs before hval0 hW hcnd _
  have hval : ∀ (j : Nat) t v, Try.f3.params[j]? = some t → args[j]? = some v → Value.okWide Try.prog W .any base t v := hval0
  have hW' := hW
  obtain ⟨p, q, hA0, hV, rfl, hfz, hnd⟩ := hW
  have hA : DataW.TrodAll enc Try.prog W 0 (fun _ => true) true Try.f3.params.toList args.toList ds p := hA0
  rw [Try.params3] at hA hval
  obtain ⟨v0, vs0, d0, ds0, p0, q0, hargs, rfl, rfl, h0, r0⟩ := trodAll_cons hA
  obtain ⟨rfl, rfl, rfl⟩ := trodAll_nil r0
  obtain rfl : args = #[v0] := by cases args; simp_all
  obtain ⟨rfl, rfl⟩ := trodVars_none hV
  obtain ⟨a0, len0, cap0, rfl⟩ := okWide_slice Try.underlying22 (hval 0 22 v0 rfl rfl)
  have k0 := h0
  have lt0 : ∀ x ∈ p0, x.block < W.heap.size := by obtain ⟨m, hm⟩ := k0; exact DataW.trod_lt m _ _ _ hm
  obtain ⟨f0, w0⟩ : ∃ f, IsEnts W a0 len0 cap0 f := by
    obtain ⟨fuel, hf⟩ := h0
    exact open_ents (by simpa [Value.cells] using hf)
  clear hA0 hval0
  refine (walk a0 len0 cap0 f0 W w0).mono fun e W' ⟨he, bel⟩ => ?_
  subst he
  exact ⟨_, rfl, _, _, _, [], _, [], hW', trodAll_mk1 (shut_bool Try.underlying4 _), (trodAll_cons_mk (Below.trod laidOut (by kernel_rfl) (of_decide_eq_true (by kernel_rfl)) k0 bel lt0) trodAll_mk0), rfl, bel.frame _, fun h => by cases h⟩

theorem over : Rows.fnCloneACLEntriesTwiceGivesSeparateEqualCopiesRow.holds Try.pinned (OpenSpec.ofChange Rows.fnCloneACLEntriesTwiceGivesSeparateEqualCopiesSpec) :=
  OpenClaim.holds_of_wide 3 Try.f3 rfl rfl rfl rfl rfl rfl rfl ⟨rfl, rfl, rfl, rfl, rfl⟩ rfl rfl rfl rfl rfl (by kernel_rfl) Try.func3 (by kernel_rfl)
    (of_decide_eq_true (by kernel_rfl)) (by unfold Func.isWrapper; first | (rw [if_pos (by decide +kernel)]; kernel_rfl) | (rw [if_neg (by decide +kernel)]; exact ⟨rfl, rfl⟩))
    (fun os started H enc _ => lifted os started H enc)

/-- THE STATEMENT -/
theorem proved : Rows.FnCloneACLEntriesTwiceGivesSeparateEqualCopiesSaid := over
#print axioms proved
end Go.Proofs.Qxb6625486a.twiceProof
