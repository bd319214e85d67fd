import Derived.Test.Qxb6627207aSame
import Derived.WalkKit
import Derived.ProofKit
import Derived.OpenShut
import Derived.Deep.Slices
import Derived.Deep.Strs
namespace Go.Proofs.Qxb6627207a
open Go.ChangeShapes Go.WideShapes Go.ChangeAt Go.RowKit Go.Deep

theorem Try.cells33 : Try.prog.cellsOf 33 = 3 := by kernel_rfl
theorem Try.cells3 : Try.prog.cellsOf 3 = 1 := by kernel_rfl
theorem Try.cells5 : Try.prog.cellsOf 5 = 1 := by kernel_rfl

/-- WHAT THE WALK IS TOLD OF A SLICE OF ELEMENTS THAT CAME IN. -/
def IsPends (w : World) (a : Option Addr) (len cap : Nat) (f : Nat → Pd) : Prop :=
  len ≤ cap ∧ cap ≤ maxLen ∧ (0 < len → ∃ b o, a = some ⟨b, o, none⟩ ∧ b < w.heap.size ∧ Has w b o len f) ∧ ∀ j, j < len → 0 ≤ (f j).b ∧ (f j).b ≤ 255

theorem open_pends {H : Type} {enc : TypeId × Value → H} {W : World} {fuel : Nat} {a : Option Addr} {len cap : Nat} {x : DataW H × List MemPlace}
    (h : DataW.trod enc Try.prog W 0 (fun _ => true) true fuel 22 [.slice a len cap] = some x) : ∃ f, IsPends W a len cap f := by
  rcases open_slice Try.underlying22 h with ⟨hcs, _⟩ | ⟨a', len', cap', m, n, D, Pl, hcs, _, hl, hm, hmm, _, hx⟩
  · simp at hcs
    obtain ⟨rfl, rfl, rfl⟩ := hcs
    exact ⟨fun _ => pz, Nat.le_refl _, Nat.zero_le _, fun h => by omega, fun j hj => by omega⟩
  · simp at hcs
    obtain ⟨rfl, rfl, rfl⟩ := hcs
    simp only [if_true] at hmm
    subst hmm
    rw [Try.cells33] at hx
    have each : ∀ i, i < m → ∃ q : Int × Int × Int, W.cell? (a'.add (i * 3)) = some (.int .i64 q.1) ∧ W.cell? (a'.add (i * 3 + 1)) = some (.int .i64 q.2.1) ∧ W.cell? (a'.add (i * 3 + 2)) = some (.int .u8 q.2.2) ∧ (Lit.int .u8 q.2.2).wf = true := by
      intro i hi
      obtain ⟨cs', h1, h2⟩ := hx i hi
      obtain ⟨_, hlen, hcell⟩ := World.cells?_some h1
      obtain ⟨y0, y1, y2, k, _, _, g0, g1, g2⟩ := trod_struct3 Try.underlying33 h2
      match cs', hlen with
      | [v0, v1, v2], _ =>
        simp [Try.cells3, Try.cells5] at g0 g1 g2
        obtain ⟨n0, e0, _, _⟩ := DataW.trod_int Try.underlying3 g0
        obtain ⟨n1, e1, _, _⟩ := DataW.trod_int Try.underlying3 g1
        obtain ⟨n2, e2, _, w2⟩ := DataW.trod_int Try.underlying5 g2
        simp at e0 e1 e2
        subst e0 e1 e2
        have c0 := hcell 0 (by omega)
        have c1 := hcell 1 (by omega)
        have c2 := hcell 2 (by omega)
        rw [add_add] at c0 c1 c2
        exact ⟨(n0, n1, n2), by simpa using c0, by simpa using c1, by simpa using c2, w2⟩
    obtain ⟨q, hq⟩ := choose_lt each
    refine ⟨fun i => ⟨(q i).1, (q i).2.1, (q i).2.2⟩, hl, hm, fun h0 => ?_, fun j hj => ?_⟩
    · obtain ⟨b, off, spot⟩ := a'
      have h00 := (hq 0 (by omega)).1
      have hspot : spot = none := by simpa [Addr.add] using World.cell?_spot h00
      subst hspot
      refine ⟨b, off, rfl, ?_, fun j hj => ?_⟩
      · have := block_lt_of_cell h00
        simpa [Addr.add] using this
      · obtain ⟨c0, c1, c2, _⟩ := hq j (by omega)
        rw [add_plain] at c0 c1 c2
        exact ⟨c0, by simpa [Nat.add_assoc] using c1, by simpa [Nat.add_assoc] using c2⟩
    · have := (hq j (by omega)).2.2.2
      exact bounds_u8 this
end Go.Proofs.Qxb6627207a
