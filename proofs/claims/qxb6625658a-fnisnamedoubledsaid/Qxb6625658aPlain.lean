/- plain mathematics: names as lists of bytes. No Go here. -/
namespace Go.Proofs.Qxb6625658a

def letB (n : Int) : Bool := (decide (97 ≤ n) && decide (n ≤ 122)) || (decide (65 ≤ n) && decide (n ≤ 90))
def digB (n : Int) : Bool := decide (48 ≤ n) && decide (n ≤ 57)
/-- the alphabet of names -/
def okB (n : Int) : Bool := letB n || digB n || decide (n = 46) || decide (n = 95) || decide (n = 45) || decide (n = 47)

/-- 1 to 64 bytes, each of the alphabet -/
def nameL (l : List UInt8) : Bool := decide (1 ≤ l.length) && decide (l.length ≤ 64) && l.all (fun b => okB (b.toNat : Int))

theorem nameL_zero {l : List UInt8} (h : l.length = 0) : nameL l = false := by simp [nameL, h]
theorem nameL_long {l : List UInt8} (h : 64 < l.length) : nameL l = false := by
  have : ¬ l.length ≤ 64 := by omega
  simp [nameL, this]
theorem nameL_mid {l : List UInt8} (h1 : 1 ≤ l.length) (h2 : l.length ≤ 64) : nameL l = l.all (fun b => okB (b.toNat : Int)) := by simp [nameL, h1, h2]

/-- a name cut in two -/
theorem nameL_append {x y : List UInt8} (hx : 1 ≤ x.length) (hy : 1 ≤ y.length) (h : x.length + y.length ≤ 64) : nameL (x ++ y) = (nameL x && nameL y) := by
  rw [nameL_mid (by simp; omega) (by simp; omega), nameL_mid hx (by omega), nameL_mid hy (by omega), List.all_append]

theorem nameL_one (b : UInt8) : nameL [b] = okB (b.toNat : Int) := by simp [nameL]

theorem nameL_cut {l : List UInt8} {i : Nat} (h0 : 0 < i) (hi : i < l.length) (h : l.length ≤ 64) : nameL l = (nameL (l.take i) && nameL (l.drop i)) := by
  have := nameL_append (x := l.take i) (y := l.drop i) (by simp; omega) (by simp; omega) (by simp; omega)
  rwa [List.take_append_drop] at this

theorem nameL_twice {l : List UInt8} : nameL (l ++ l) = (nameL l && decide (l.length ≤ 32)) := by
  by_cases h0 : l.length = 0
  · rw [nameL_zero (by rw [List.length_append]; omega), nameL_zero h0]; rfl
  · by_cases h1 : l.length ≤ 32
    · rw [nameL_append (by omega) (by omega) (by omega)]; simp [h1]
    · rw [nameL_long (by simp; omega)]; simp [h1]
end Go.Proofs.Qxb6625658a
