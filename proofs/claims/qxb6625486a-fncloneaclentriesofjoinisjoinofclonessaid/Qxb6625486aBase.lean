import Derived.WalkKit
import Derived.Deep.OwnRows
import Derived.Deep.Draws
namespace Go.Proofs.Qxb6625486a
open Go.RowKit

/-- one entry: the fields ID, Perms -/
structure En where
  i : Int
  p : Int

def ez : En := ⟨0, 0⟩

/-- the slice that begins at ⟨b, o⟩ holds f 0 .. f (n-1) -/
def Has (w : World) (b o n : Nat) (f : Nat → En) : Prop :=
  ∀ j, j < n → w.cell? ⟨b, o + j * 2, none⟩ = some (.int .u32 (f j).i) ∧ w.cell? ⟨b, o + j * 2 + 1, none⟩ = some (.int .u64 (f j).p)

/-- what cell k of a row of entries holds -/
def ev (f : Nat → En) (k : Nat) : Value := if k % 2 = 0 then .int .u32 (f (k / 2)).i else .int .u64 (f (k / 2)).p

theorem ev0 (f : Nat → En) (j : Nat) : ev f (j * 2) = .int .u32 (f j).i := by
  have h2 : j * 2 / 2 = j := by omega
  simp [ev, h2]
theorem ev1 (f : Nat → En) (j : Nat) : ev f (j * 2 + 1) = .int .u64 (f j).p := by
  have h : (j * 2 + 1) % 2 = 1 := by omega
  have h2 : (j * 2 + 1) / 2 = j := by omega
  simp [ev, h, h2]

/-- block g is a row of the call's own, none frozen; its first n elements are f; there may be spare room behind them -/
def Own (w : World) (g : Nat) (t : TypeId) (n : Nat) (f : Nat → En) : Prop :=
  ∃ c : Array Value, w.heap[g]? = some (.cells c t (0, 0)) ∧ ∀ k, k < n * 2 → c[k]? = some (ev f k)

theorem Own.cell {w : World} {g : Nat} {t : TypeId} {n : Nat} {f : Nat → En} (h : Own w g t n f) {k : Nat} (hk : k < n * 2) : w.cell? ⟨g, k, none⟩ = some (ev f k) := by
  obtain ⟨c, hb, hc⟩ := h
  simp [World.cell?, hb, hc k hk]
theorem Own.has {w : World} {g : Nat} {t : TypeId} {n : Nat} {f : Nat → En} (h : Own w g t n f) : Has w g 0 n f := by
  intro j hj
  refine ⟨?_, ?_⟩
  · rw [← ev0 f j]; simpa using h.cell (k := j * 2) (by omega)
  · rw [← ev1 f j]; simpa using h.cell (k := j * 2 + 1) (by omega)
theorem Own.frozen {w : World} {g : Nat} {t : TypeId} {n : Nat} {f : Nat → En} (h : Own w g t n f) (k : Nat) : w.frozen? ⟨g, k, none⟩ = false := by
  obtain ⟨c, hb, _⟩ := h
  simp [World.frozen?, hb]
theorem Own.lt {w : World} {g : Nat} {t : TypeId} {n : Nat} {f : Nat → En} (h : Own w g t n f) : g < w.heap.size := by
  obtain ⟨c, hb, _⟩ := h
  exact (Array.getElem?_eq_some_iff.1 hb).1
theorem Own.congr {w : World} {g : Nat} {t : TypeId} {n : Nat} {f f' : Nat → En} (h : Own w g t n f) (e : ∀ j, j < n → f j = f' j) : Own w g t n f' := by
  obtain ⟨c, hb, hc⟩ := h
  refine ⟨c, hb, fun k hk => ?_⟩
  rw [hc k hk]
  have : k / 2 < n := by omega
  simp only [ev, e _ this]
theorem Own.of_block {w w' : World} {g : Nat} {t : TypeId} {n : Nat} {f : Nat → En} (h : Own w g t n f) (e : w'.heap[g]? = w.heap[g]?) : Own w' g t n f := by
  obtain ⟨c, hb, hc⟩ := h
  exact ⟨c, e.trans hb, hc⟩
theorem Own.alloc {w : World} {g : Nat} {t : TypeId} {n : Nat} {f : Nat → En} (h : Own w g t n f) (o : Obj) : Own (w.alloc o) g t n f := h.of_block (Deep.blk_alloc_lt _ _ _ h.lt)
theorem Own.drew {w : World} {g : Nat} {t : TypeId} {n : Nat} {f : Nat → En} (h : Own w g t n f) : Own w.drew g t n f := h
theorem Own.drewN {w : World} {g : Nat} {t : TypeId} {n : Nat} {f : Nat → En} (h : Own w g t n f) (m : Nat) : Own (w.drewN m) g t n f := h
theorem Own.below {B : Nat} {w w' : World} {g : Nat} {t : TypeId} {n : Nat} {f : Nat → En} (h : Own w g t n f) (hb : Below B w w') (hg : g < B) : Own w' g t n f := h.of_block (hb.block g hg)

theorem own_setCell {w : World} {g : Nat} {t : TypeId} {n : Nat} {f f' : Nat → En} (h : Own w g t n f) (i : Nat) (v : Value) (e : ∀ k, k < n * 2 → (if k = i then v else ev f k) = ev f' k) : Own (w.setCell ⟨g, i, none⟩ v) g t n f' := by
  obtain ⟨c, hb, hc⟩ := h
  refine ⟨c.setIfInBounds i v, by simp [World.setCell, Array.getElem?_modify, hb], fun k hk => ?_⟩
  rw [Array.getElem?_setIfInBounds, ← e k hk]
  have hlt : k < c.size := (Array.getElem?_eq_some_iff.1 (hc k hk)).1
  by_cases ek : i = k
  · subst ek; simp [hlt]
  · have : ¬ k = i := fun h => ek h.symm
    simp [ek, this, hc k hk]

/-- the first field of entry i is stored -/
theorem Own.set0 {w : World} {g : Nat} {t : TypeId} {n : Nat} {f : Nat → En} (h : Own w g t n f) (i : Nat) (x : Int) :
    Own (w.setCell ⟨g, i * 2, none⟩ (.int .u32 x)) g t n (fun j => if j = i then ⟨x, (f j).p⟩ else f j) := by
  refine own_setCell h _ _ fun k hk => ?_
  by_cases e : k = i * 2
  · subst e; rw [if_pos rfl, ev0]; simp
  · simp only [e, if_false, ev]
    by_cases e2 : k % 2 = 0
    · have : ¬ k / 2 = i := by omega
      simp [e2, this]
    · by_cases e3 : k / 2 = i
      · simp [e2, e3]
      · simp [e2, e3]
/-- the second field of entry i is stored -/
theorem Own.set1 {w : World} {g : Nat} {t : TypeId} {n : Nat} {f : Nat → En} (h : Own w g t n f) (i : Nat) (x : Int) :
    Own (w.setCell ⟨g, i * 2 + 1, none⟩ (.int .u64 x)) g t n (fun j => if j = i then ⟨(f j).i, x⟩ else f j) := by
  refine own_setCell h _ _ fun k hk => ?_
  by_cases e : k = i * 2 + 1
  · subst e; rw [if_pos rfl, ev1]; simp
  · simp only [e, if_false, ev]
    by_cases e2 : k % 2 = 0
    · by_cases e3 : k / 2 = i
      · simp [e2, e3]
      · simp [e2, e3]
    · have : ¬ k / 2 = i := by omega
      simp [e2, this]
/-- one entry is stored -/
theorem Own.set {w : World} {g : Nat} {t : TypeId} {n : Nat} {f : Nat → En} (h : Own w g t n f) (i : Nat) (q : En) :
    Own ((w.setCell ⟨g, i * 2, none⟩ (.int .u32 q.i)).setCell ⟨g, i * 2 + 1, none⟩ (.int .u64 q.p)) g t n (fun j => if j = i then q else f j) :=
  ((h.set0 i q.i).set1 i q.p).congr fun j _ => by
    by_cases e : j = i
    · simp [e]
    · simp [e]
theorem Own.fill {w : World} {g : Nat} {t : TypeId} {n k : Nat} {f : Nat → En} (h : Own w g t n (fun j => if j < k then f j else ez)) :
    Own ((w.setCell ⟨g, k * 2, none⟩ (.int .u32 (f k).i)).setCell ⟨g, k * 2 + 1, none⟩ (.int .u64 (f k).p)) g t n (fun j => if j < k + 1 then f j else ez) := by
  refine (h.set k (f k)).congr fun j _ => ?_
  by_cases e : j = k
  · subst e; simp
  · have : (j < k + 1) = (j < k) := by rw [eq_iff_iff]; omega
    simp [e, this]

/-- what make lays -/
theorem own_made (w : World) (n : Nat) (t : TypeId) : Own (w.alloc (.cells (madeCells #[.int .u32 0, .int .u64 0] (n * 2)) t)) w.heap.size t n (fun _ => ez) := by
  refine ⟨_, Deep.blk_alloc_new _ _, fun k hk => ?_⟩
  have h3 : k % 2 = 0 ∨ k % 2 = 1 := by omega
  rcases h3 with h3 | h3 <;> simp [madeCells, hk, h3, ev, ez]

theorem Has.sub {w : World} {b o n : Nat} {f : Nat → En} (h : Has w b o n f) {m : Nat} (hm : m ≤ n) : Has w b o m f := fun j hj => h j (by omega)
theorem Has.below {B : Nat} {w w' : World} {b o n : Nat} {f : Nat → En} (h : Has w b o n f) (hb : Below B w w') (hB : b < B) : Has w' b o n f := fun j hj => by
  obtain ⟨h0, h1⟩ := h j hj
  exact ⟨(hb.cell (by exact hB)).trans h0, (hb.cell (by exact hB)).trans h1⟩
theorem Has.drewN {w : World} {b o n : Nat} {f : Nat → En} (h : Has w b o n f) (m : Nat) : Has (w.drewN m) b o n f := h
theorem below_drewN' {B : Nat} {a w : World} (h : Below B a w) (m : Nat) : Below B a (w.drewN m) := ⟨h.os, h.tape, h.output, h.size, h.block⟩
theorem below_set2 {B : Nat} {a w : World} (h : Below B a w) {g : Nat} (hg : B ≤ g) (i1 i2 : Nat) (u1 u2 : Value) :
    Below B a ((w.setCell ⟨g, i1, none⟩ u1).setCell ⟨g, i2, none⟩ u2) := (h.setCell (by exact hg) _).setCell (by exact hg) _

/-- but for block g, w' holds what w held; no block has come -/
structure Kept1 (g : Nat) (w w' : World) : Prop where
  os : w'.os = w.os
  tape : w'.tape = w.tape
  output : w'.output = w.output
  size : w'.heap.size = w.heap.size
  block : ∀ k, k ≠ g → w'.heap[k]? = w.heap[k]?
theorem Kept1.refl (g : Nat) (w : World) : Kept1 g w w := ⟨rfl, rfl, rfl, rfl, fun _ _ => rfl⟩
theorem Kept1.set {g : Nat} {w w' : World} (h : Kept1 g w w') (i : Nat) (u : Value) : Kept1 g w (w'.setCell ⟨g, i, none⟩ u) :=
  ⟨h.os, h.tape, h.output, by simpa [World.setCell] using h.size, fun k hk => (Below.heap_setCell _ _ _ _ (by exact hk)).trans (h.block k hk)⟩
theorem Kept1.own {g : Nat} {w w' : World} (h : Kept1 g w w') {b : Nat} {t : TypeId} {n : Nat} {f : Nat → En} (ho : Own w b t n f) (hg : b ≠ g) : Own w' b t n f := ho.of_block (h.block b hg)
theorem Kept1.below {g B : Nat} {w0 w w' : World} (h : Kept1 g w w') (hb : Below B w0 w) (hg : B ≤ g) : Below B w0 w' :=
  ⟨h.os.trans hb.os, h.tape.trans hb.tape, h.output.trans hb.output, Nat.le_trans hb.size (Nat.le_of_eq h.size.symm), fun k hk => (h.block k (by omega)).trans (hb.block k hk)⟩

/-- what a slice value reads as: nothing is asked of the address of an empty one -/
def HasO (w : World) (a : Option Addr) (n : Nat) (f : Nat → En) : Prop := 0 < n → ∃ b o, a = some ⟨b, o, none⟩ ∧ Has w b o n f
end Go.Proofs.Qxb6625486a
