import Derived.WalkKit
import Derived.Deep.OwnRows
import Derived.Deep.Draws
namespace Go.Proofs.Qxb6627207a
open Go.RowKit

/-- one element: the fields K, At, Before -/
structure Pd where
  k : Int
  a : Int
  b : Int

/-- the zero element -/
def pz : Pd := ⟨0, 0, 0⟩

/-- the slice that begins at ⟨b, o⟩ holds f 0 .. f (n-1) -/
def Has (w : World) (b o n : Nat) (f : Nat → Pd) : Prop :=
  ∀ j, j < n → w.cell? ⟨b, o + j * 3, none⟩ = some (.int .i64 (f j).k) ∧ w.cell? ⟨b, o + j * 3 + 1, none⟩ = some (.int .i64 (f j).a) ∧ w.cell? ⟨b, o + j * 3 + 2, none⟩ = some (.int .u8 (f j).b)

/-- what cell i of a row of elements holds -/
def pv (f : Nat → Pd) (i : Nat) : Value :=
  if i % 3 = 0 then .int .i64 (f (i / 3)).k else if i % 3 = 1 then .int .i64 (f (i / 3)).a else .int .u8 (f (i / 3)).b

theorem pv0 (f : Nat → Pd) (j : Nat) : pv f (j * 3) = .int .i64 (f j).k := by
  have h : j * 3 % 3 = 0 := by omega
  have h2 : j * 3 / 3 = j := by omega
  simp [pv, h2]
theorem pv1 (f : Nat → Pd) (j : Nat) : pv f (j * 3 + 1) = .int .i64 (f j).a := by
  have h : (j * 3 + 1) % 3 = 1 := by omega
  have h2 : (j * 3 + 1) / 3 = j := by omega
  simp [pv, h, h2]
theorem pv2 (f : Nat → Pd) (j : Nat) : pv f (j * 3 + 2) = .int .u8 (f j).b := by
  have h : (j * 3 + 2) % 3 = 2 := by omega
  have h2 : (j * 3 + 2) / 3 = j := by omega
  simp [pv, h, h2]

/-- block g is a row of n elements of type t, of the call's own, none frozen -/
def Own (w : World) (g : Nat) (t : TypeId) (n : Nat) (f : Nat → Pd) : Prop := w.rowIs g t (n * 3) (pv f)

theorem Own.has {w : World} {g : Nat} {t : TypeId} {n : Nat} {f : Nat → Pd} (h : Own w g t n f) : Has w g 0 n f := by
  intro j hj
  refine ⟨?_, ?_, ?_⟩
  · rw [← pv0 f j]; simpa using h.cell (i := j * 3) (by omega)
  · rw [← pv1 f j]; simpa using h.cell (i := j * 3 + 1) (by omega)
  · rw [← pv2 f j]; simpa using h.cell (i := j * 3 + 2) (by omega)

theorem Own.frozen {w : World} {g : Nat} {t : TypeId} {n : Nat} {f : Nat → Pd} (h : Own w g t n f) (i : Nat) : w.frozen? ⟨g, i, none⟩ = false := World.rowIs.frozen h i
theorem Own.lt {w : World} {g : Nat} {t : TypeId} {n : Nat} {f : Nat → Pd} (h : Own w g t n f) : g < w.heap.size := World.rowIs.lt h

theorem Own.congr {w : World} {g : Nat} {t : TypeId} {n : Nat} {f f' : Nat → Pd} (h : Own w g t n f) (e : ∀ j, j < n → f j = f' j) : Own w g t n f' := by
  refine World.rowIs.congr h fun i hi => ?_
  have : i / 3 < n := by omega
  simp only [pv, e _ this]

theorem Own.of_block {w w' : World} {g : Nat} {t : TypeId} {n : Nat} {f : Nat → Pd} (h : Own w g t n f) (e : w'.heap[g]? = w.heap[g]?) : Own w' g t n f := World.rowIs.of_block h e
theorem Own.alloc {w : World} {g : Nat} {t : TypeId} {n : Nat} {f : Nat → Pd} (h : Own w g t n f) (o : Obj) : Own (w.alloc o) g t n f := World.rowIs.alloc h o
theorem Own.drew {w : World} {g : Nat} {t : TypeId} {n : Nat} {f : Nat → Pd} (h : Own w g t n f) : Own w.drew g t n f := h
theorem Own.drewN {w : World} {g : Nat} {t : TypeId} {n : Nat} {f : Nat → Pd} (h : Own w g t n f) (m : Nat) : Own (w.drewN m) g t n f := h
theorem Own.below {B : Nat} {w w' : World} {g : Nat} {t : TypeId} {n : Nat} {f : Nat → Pd} (h : Own w g t n f) (hb : Below B w w') (hg : g < B) : Own w' g t n f := h.of_block (hb.block g hg)
theorem Own.setOther {w : World} {g : Nat} {t : TypeId} {n : Nat} {f : Nat → Pd} (h : Own w g t n f) {a : Addr} (ha : g ≠ a.block) (v : Value) : Own (w.setCell a v) g t n f := World.rowIs.setOther h ha v

/-- one element is stored -/
theorem Own.set {w : World} {g : Nat} {t : TypeId} {n : Nat} {f : Nat → Pd} (h : Own w g t n f) (i : Nat) (p : Pd) :
    Own (((w.setCell ⟨g, i * 3, none⟩ (.int .i64 p.k)).setCell ⟨g, i * 3 + 1, none⟩ (.int .i64 p.a)).setCell ⟨g, i * 3 + 2, none⟩ (.int .u8 p.b)) g t n (fun j => if j = i then p else f j) := by
  refine World.rowIs.congr (((World.rowIs.set h _ _).set _ _).set _ _) fun j hj => ?_
  simp only [pv]
  by_cases h2 : j = i * 3 + 2
  · subst h2
    have e1 : (i * 3 + 2) % 3 = 2 := by omega
    have e2 : (i * 3 + 2) / 3 = i := by omega
    simp [e1, e2]
  by_cases h1 : j = i * 3 + 1
  · subst h1
    have e1 : (i * 3 + 1) % 3 = 1 := by omega
    have e2 : (i * 3 + 1) / 3 = i := by omega
    simp [e1, e2]
  by_cases h0 : j = i * 3
  · subst h0
    have e1 : (i * 3) % 3 = 0 := by omega
    have e2 : (i * 3) / 3 = i := by omega
    simp [e2]
  have hne : ¬ j / 3 = i := by omega
  simp [h0, h1, h2, hne]

/-- what make lays -/
theorem own_made (w : World) (n : Nat) (t : TypeId) : Own (w.alloc (.cells (madeCells #[.int .i64 0, .int .i64 0, .int .u8 0] (n * 3)) t)) w.heap.size t n (fun _ => pz) := by
  refine ⟨_, Deep.blk_alloc_new _ _, size_madeCells _ _, fun i hi => ?_⟩
  have h3 : i % 3 = 0 ∨ i % 3 = 1 ∨ i % 3 = 2 := by omega
  rcases h3 with h3 | h3 | h3 <;> simp [madeCells, hi, h3, pv, pz]

theorem Has.sub {w : World} {b o n : Nat} {f : Nat → Pd} (h : Has w b o n f) {m : Nat} (hm : m ≤ n) : Has w b o m f := fun j hj => h j (by omega)
theorem Has.drop {w : World} {b o n : Nat} {f : Nat → Pd} (h : Has w b o n f) (m : Nat) (hm : m ≤ n) : Has w b (o + m * 3) (n - m) (fun j => f (m + j)) := fun j hj => by
  have := h (m + j) (by omega)
  have e : o + m * 3 + j * 3 = o + (m + j) * 3 := by omega
  rw [e]; exact this
theorem Has.below {B : Nat} {w w' : World} {b o n : Nat} {f : Nat → Pd} (h : Has w b o n f) (hb : Below B w w') (hB : b < B) : Has w' b o n f := fun j hj => by
  obtain ⟨h0, h1, h2⟩ := h j hj
  exact ⟨(hb.cell (by exact hB)).trans h0, (hb.cell (by exact hB)).trans h1, (hb.cell (by exact hB)).trans h2⟩
theorem Has.drewN {w : World} {b o n : Nat} {f : Nat → Pd} (h : Has w b o n f) (m : Nat) : Has (w.drewN m) b o n f := h
theorem below_drewN' {B : Nat} {a w : World} (h : Below B a w) (m : Nat) : Below B a (w.drewN m) := ⟨h.os, h.tape, h.output, h.size, h.block⟩

/-- the k-th element of a row that is being filled from its head -/
theorem Own.fill {w : World} {g : Nat} {t : TypeId} {n k : Nat} {f : Nat → Pd} (h : Own w g t n (fun j => if j < k then f j else pz)) :
    Own (((w.setCell ⟨g, k * 3, none⟩ (.int .i64 (f k).k)).setCell ⟨g, k * 3 + 1, none⟩ (.int .i64 (f k).a)).setCell ⟨g, k * 3 + 2, none⟩ (.int .u8 (f k).b)) g t n (fun j => if j < k + 1 then f j else pz) := by
  refine (h.set k (f k)).congr fun j _ => ?_
  by_cases e : j = k
  · subst e; simp
  · have : (j < k + 1) = (j < k) := by rw [eq_iff_iff]; omega
    simp [e, this]

theorem below_set3 {B : Nat} {a w : World} (h : Below B a w) {g : Nat} (hg : B ≤ g) (i1 i2 i3 : Nat) (u1 u2 u3 : Value) :
    Below B a (((w.setCell ⟨g, i1, none⟩ u1).setCell ⟨g, i2, none⟩ u2).setCell ⟨g, i3, none⟩ u3) := ((h.setCell (by exact hg) _).setCell (by exact hg) _).setCell (by exact hg) _
end Go.Proofs.Qxb6627207a
