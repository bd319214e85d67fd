import Derived.Test.Qxb6625486aProg
import Derived.Test.Qxb6625486aBase
import Derived.WalkKit
import Derived.ProofKit
import Derived.OpenShut
import Derived.Deep.Slices
import Derived.Deep.SlicePairs
namespace Go.Proofs.Qxb6625486a
open Go.ChangeShapes Go.WideShapes Go.ChangeAt Go.RowKit Go.Deep

theorem Try.cells37 : Try.prog.cellsOf 37 = 2 := by kernel_rfl
theorem Try.cells31 : Try.prog.cellsOf 31 = 1 := by kernel_rfl
theorem Try.cells32 : Try.prog.cellsOf 32 = 1 := by kernel_rfl

/-- WHAT THE WALK IS TOLD OF A SLICE OF ENTRIES THAT CAME IN. -/
def IsEnts (w : World) (a : Option Addr) (len cap : Nat) (f : Nat → En) : Prop :=
  len ≤ cap ∧ cap ≤ maxLen ∧ (a = none → len = 0) ∧ (0 < len → ∃ b o, a = some ⟨b, o, none⟩ ∧ b < w.heap.size ∧ Has w b o len f)

theorem open_ents {H : Type} {enc : TypeId × Value → H} {W : World} {fuel : Nat} {a : Option Addr} {len cap : Nat} {x : DataW H × List MemPlace}
    (h : DataW.trod enc Try.prog W 0 (fun _ => true) true fuel 22 [.slice a len cap] = some x) : ∃ f, IsEnts W a len cap f := by
  rcases open_slice_pairs Try.underlying22 Try.underlying37 Try.cells37 rfl rfl Try.cells31 Try.cells32 h with ⟨hcs, _⟩ | ⟨a', len', cap', m, n, V0, V1, D0, D1, P0, P1, hcs, _, hl, hm, hmm, _, hx⟩
  · simp at hcs
    obtain ⟨rfl, rfl, rfl⟩ := hcs
    exact ⟨fun _ => ez, Nat.le_refl _, Nat.zero_le _, fun _ => rfl, fun h => by omega⟩
  · simp at hcs
    obtain ⟨rfl, rfl, rfl⟩ := hcs
    simp only [if_true] at hmm
    subst hmm
    have each : ∀ i, i < m → ∃ q : Int × Int, W.cell? (a'.add (i * 2)) = some (.int .u32 q.1) ∧ W.cell? (a'.add (i * 2 + 1)) = some (.int .u64 q.2) := by
      intro i hi
      obtain ⟨c0, c1, g0, g1⟩ := hx i hi
      obtain ⟨n0, e0, _, _⟩ := DataW.trod_int Try.underlying31 g0
      obtain ⟨n1, e1, _, _⟩ := DataW.trod_int Try.underlying32 g1
      simp at e0 e1
      exact ⟨(n0, n1), by rw [c0, e0], by rw [c1, e1]⟩
    obtain ⟨q, hq⟩ := choose_lt each
    refine ⟨fun i => ⟨(q i).1, (q i).2⟩, hl, hm, fun h => by simp at h, fun h0 => ?_⟩
    obtain ⟨b, off, spot⟩ := a'
    have h00 := (hq 0 (by omega)).1
    have hspot : spot = none := by simpa [Addr.add] using World.cell?_spot h00
    subst hspot
    refine ⟨b, off, rfl, ?_, fun j hj => ?_⟩
    · have := block_lt_of_cell h00
      simpa [Addr.add] using this
    · obtain ⟨c0, c1⟩ := hq j (by omega)
      rw [add_plain] at c0 c1
      exact ⟨c0, by simpa [Nat.add_assoc] using c1⟩
end Go.Proofs.Qxb6625486a
