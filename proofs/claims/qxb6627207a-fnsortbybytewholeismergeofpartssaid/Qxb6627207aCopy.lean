import Derived.Test.Qxb6627207aConv
import Derived.Test.Qxb6627207aKept
import Derived.Laws.CopyOwn
namespace Go.Proofs.Qxb6627207a
open Go.RowKit

/-- the cells of a row of n elements -/
def rowCells (n : Nat) (v : Nat → Pd) : List Value := (List.range (n * 3)).map (pv v)

theorem rowCells_length (n : Nat) (v : Nat → Pd) : (rowCells n v).length = n * 3 := by simp [rowCells]
theorem rowCells_get {n : Nat} {v : Nat → Pd} {i : Nat} (h : i < n * 3) : (rowCells n v)[i]? = some (pv v i) := by simp [rowCells, h]

theorem pv_one (v : Nat → Pd) (i : Nat) : (pv v i).oneCell' = true := by
  unfold pv
  split
  · rfl
  · split <;> rfl

/-- copy(group, scratch[:n]), both rows of the call's own: n elements of three cells -/
theorem run_copy_pend {w : World} {g s n m c : Nat} {h v : Nat → Pd} (hG : Own w g 35 n h) (hS : Own w s 35 m v) (hnm : n ≤ m) (ty : TypeId) :
    (Builtin.copy_ #[25, 25] ty #[.slice (some ⟨g, 0, none⟩) n n, .slice (some ⟨s, 0, none⟩) n c]).run Try.prog w = .ok (goInt n) (w.setRow g (rowCells n v).toArray) := by
  obtain ⟨cur, hg, hsz, _⟩ := hG
  have hsrc : ∀ j u, (rowCells n v)[j]? = some u → w.cell? ((⟨s, 0, none⟩ : Addr).add j) = some u := by
    intro j u hj
    have hlt : j < n * 3 := by
      have := (List.getElem?_eq_some_iff.1 hj).1
      rwa [rowCells_length] at this
    rw [rowCells_get hlt] at hj
    have e : (⟨s, 0, none⟩ : Addr).add j = ⟨s, j, none⟩ := by unfold Addr.add; split <;> simp_all
    rw [e, World.rowIs.cell hS (by omega)]
    exact hj
  have hl := run_loadCells_list (P := Try.prog) w ⟨s, 0, none⟩ (rowCells n v) hsrc
  have hst := run_storeCells_at Try.prog g 0 35 (rowCells n v) 0 cur w hg (by rw [rowCells_length]; omega) (fun u hu => by
    simp only [rowCells, List.mem_map] at hu
    obtain ⟨i, _, rfl⟩ := hu
    exact pv_one v i)
  have hdrop : List.drop (0 + 0 + (rowCells n v).length) cur.toList = [] := List.drop_eq_nil_of_le (by rw [rowCells_length, Array.length_toList]; omega)
  rw [hdrop] at hst
  rw [rowCells_length] at hl
  obtain ⟨i0, hi, hz0, hz1, hz2⟩ := info_parts Try.info35
  simp only [Nat.add_zero, List.take_zero, List.nil_append, List.append_nil] at hst
  simp [Builtin.copy_, run_underlying Try.underlying25, Builtin.lenOf, Builtin.firstCells, sizeOf, typeInfo, hi, hz1, hl, hst]

theorem wpList_copy_pend {w : World} {ops : Array Oper} {rest : List Oper} {o : Oper} {a : Act} {Q : Exit → Act → World → Prop} (hgd : o.guard = none) (d x : Operand)
    (ho : o.op = .call { callee := .builtin .copy, args := #[d, x], argTypes := #[25, 25] }) {g s n m c : Nat} {h v : Nat → Pd} (hd : a.eval d = .slice (some ⟨g, 0, none⟩) n n) (hx : a.eval x = .slice (some ⟨s, 0, none⟩) n c)
    (hG : Own w g 35 n h) (hS : Own w s 35 m v) (hnm : n ≤ m) (hh : wpList Try.prog ops Q rest (a.put o.dst (goInt n)) (w.setRow g (rowCells n v).toArray)) : wpList Try.prog ops Q (o :: rest) a w := by
  refine wpList_plain hgd fun K hK => ?_
  have hrun := run_copy_pend (c := c) hG hS hnm o.type
  unfold Oper.wp
  simp [execOp, ho, resolve, invoke, builtin, hd, hx, hrun, Result.andThen]
  exact hK _ _ hh

theorem own_setRow {w : World} {g n : Nat} {h v : Nat → Pd} (hG : Own w g 35 n h) : Own (w.setRow g (rowCells n v).toArray) g 35 n v := by
  obtain ⟨cur, hg, hsz, _⟩ := hG
  exact ⟨_, setRow_heap w g cur _ 35 _ hg, by simp [rowCells_length], fun i hi => by simpa using rowCells_get hi⟩

theorem own_setRow_other {w : World} {g s n m : Nat} {t : TypeId} {v u : Nat → Pd} (hS : Own w s t m u) (hne : s ≠ g) : Own (w.setRow g (rowCells n v).toArray) s t m u :=
  hS.of_block (setRow_other w g s _ hne)

theorem Kept2.setRow {g s : Nat} {w w' : World} (h : Kept2 s s w w') (cs : Array Value) : Kept2 g s w (w'.setRow g cs) :=
  ⟨h.os, h.tape, h.output, by simpa [World.setRow] using h.size, fun k hk h1 h2 => (setRow_other w' g k cs h1).trans (h.block k hk h2 h2)⟩
end Go.Proofs.Qxb6627207a
