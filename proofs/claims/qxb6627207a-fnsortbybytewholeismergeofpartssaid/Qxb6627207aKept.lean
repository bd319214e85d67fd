import Derived.Test.Qxb6627207aBase
import Derived.Test.Qxb6627207aPlain2
namespace Go.Proofs.Qxb6627207a
open Go.RowKit

/-- but for the blocks g and s, w' holds what w held -/
structure Kept2 (g s : Nat) (w w' : World) : Prop where
  os : w'.os = w.os
  tape : w'.tape = w.tape
  output : w'.output = w.output
  size : w.heap.size ≤ w'.heap.size
  block : ∀ k, k < w.heap.size → k ≠ g → k ≠ s → w'.heap[k]? = w.heap[k]?

theorem Kept2.of_below {g s : Nat} {w w' : World} (h : Below w.heap.size w w') : Kept2 g s w w' := ⟨h.os, h.tape, h.output, h.size, fun k hk _ _ => h.block k hk⟩
theorem Kept2.alloc {g s : Nat} {w w' : World} (h : Kept2 g s w w') (o : Obj) : Kept2 g s w (w'.alloc o) :=
  ⟨h.os, h.tape, h.output, by have := h.size; simp; omega, fun k hk hg hs => (Below.heap_alloc _ _ _ (by have := h.size; omega)).trans (h.block k hk hg hs)⟩
theorem Kept2.drewN {g s : Nat} {w w' : World} (h : Kept2 g s w w') (m : Nat) : Kept2 g s w (w'.drewN m) := ⟨h.os, h.tape, h.output, h.size, h.block⟩
theorem Kept2.drew {g s : Nat} {w w' : World} (h : Kept2 g s w w') : Kept2 g s w w'.drew := ⟨h.os, h.tape, h.output, h.size, h.block⟩
theorem Kept2.setCell {g s : Nat} {w w' : World} (h : Kept2 g s w w') {p : Addr} (hp : p.block = g ∨ p.block = s ∨ w.heap.size ≤ p.block) (u : Value) : Kept2 g s w (w'.setCell p u) :=
  ⟨h.os, h.tape, h.output, by simpa [World.setCell] using h.size, fun k hk hg hs => (Below.heap_setCell _ _ _ _ (by omega)).trans (h.block k hk hg hs)⟩
theorem Kept2.set3 {g s : Nat} {w w' : World} (h : Kept2 g s w w') {b : Nat} (hp : b = g ∨ b = s ∨ w.heap.size ≤ b) (i1 i2 i3 : Nat) (u1 u2 u3 : Value) :
    Kept2 g s w (((w'.setCell ⟨b, i1, none⟩ u1).setCell ⟨b, i2, none⟩ u2).setCell ⟨b, i3, none⟩ u3) := ((h.setCell (by exact hp) _).setCell (by exact hp) _).setCell (by exact hp) _
theorem Kept2.own {g s : Nat} {w w' : World} (h : Kept2 g s w w') {b : Nat} {t : TypeId} {n : Nat} {f : Nat → Pd} (ho : Own w b t n f) (hg : b ≠ g) (hs : b ≠ s) : Own w' b t n f := ho.of_block (h.block b ho.lt hg hs)
theorem Kept2.more {g s g' s' : Nat} {w w' : World} (h : Kept2 g s w w') (hg : g = g' ∨ g = s') (hs : s = g' ∨ s = s') : Kept2 g' s' w w' := ⟨h.os, h.tape, h.output, h.size, fun k hk h1 h2 => h.block k hk (by omega) (by omega)⟩
theorem Kept2.below {g s B : Nat} {w0 w w' : World} (h : Kept2 g s w w') (hb : Below B w0 w) (hB : B ≤ w0.heap.size) (hg : B ≤ g) (hs : B ≤ s) : Below B w0 w' :=
  ⟨h.os.trans hb.os, h.tape.trans hb.tape, h.output.trans hb.output, Nat.le_trans hb.size h.size, fun k hk => (h.block k (by have := hb.size; omega) (by omega) (by omega)).trans (hb.block k hk)⟩

theorem lo_step {f : Nat → Pd} {k : Nat} {L H L' H' : Int} (h : ∀ j, j < k → L ≤ (f j).b ∧ (f j).b ≤ H) (h1 : L' ≤ L) (h2 : H ≤ H') (h3 : L' ≤ (f k).b) (h4 : (f k).b ≤ H') : ∀ j, j < k + 1 → L' ≤ (f j).b ∧ (f j).b ≤ H' := by
  intro j hj
  by_cases e : j = k
  · subst e; exact ⟨h3, h4⟩
  · have := h j (by omega); omega
end Go.Proofs.Qxb6627207a
