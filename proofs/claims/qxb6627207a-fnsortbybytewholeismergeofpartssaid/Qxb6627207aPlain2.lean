/- plain mathematics: insertion and counting arrange stably. No Go here. -/
import Derived.Test.Qxb6627207aPlain
namespace Go.Proofs.Qxb6627207a

/-- the first i are arranged, the rest stands as it came -/
def Ins {α : Type} (key : α → Int) (f : Nat → α) (n i : Nat) (h : Nat → α) : Prop :=
  ∃ s : Nat → Nat, (∀ p, p < n → s p < n ∧ h p = f (s p)) ∧ (∀ p q, p < q → q < i → ahead (fun i => key (f i)) (s p) (s q)) ∧ (∀ p, p < i → s p < i) ∧ (∀ p, i ≤ p → p < n → s p = p)

/-- element i is on its way down, at place j -/
def Inn {α : Type} (key : α → Int) (f : Nat → α) (n i j : Nat) (h : Nat → α) : Prop :=
  ∃ s : Nat → Nat, (∀ p, p < n → s p < n ∧ h p = f (s p)) ∧ s j = i ∧ (∀ p q, p < q → q ≤ i → p ≠ j → q ≠ j → ahead (fun i => key (f i)) (s p) (s q)) ∧
    (∀ q, j < q → q ≤ i → key (f i) < key (f (s q))) ∧ (∀ p, p ≤ i → p ≠ j → s p < i) ∧ (∀ p, i < p → p < n → s p = p)

theorem ins_one {α : Type} {key : α → Int} {f : Nat → α} {n : Nat} : Ins key f n 1 f :=
  ⟨fun p => p, fun _ hp => ⟨hp, rfl⟩, fun p q hpq hq => by omega, fun _ hp => hp, fun _ _ _ => rfl⟩

theorem ins_all {α : Type} {key : α → Int} {f : Nat → α} {n : Nat} {h : Nat → α} (H : Ins key f n n h) : Stable key n f h := by
  obtain ⟨s, h1, h2, _, _⟩ := H
  exact ⟨s, h1, h2⟩

theorem ins_start {α : Type} {key : α → Int} {f : Nat → α} {n i : Nat} {h : Nat → α} (hi : i < n) (H : Ins key f n i h) : Inn key f n i i h := by
  obtain ⟨s, h1, h2, h3, h4⟩ := H
  exact ⟨s, h1, h4 i (Nat.le_refl _) hi, fun p q hpq hq hp hq' => h2 p q hpq (by omega), fun q hq hq' => by omega, fun p hp hp' => h3 p (by omega), fun p hp hp' => h4 p (by omega) hp'⟩

theorem inn_step {α : Type} {key : α → Int} {f : Nat → α} {n i j : Nat} {h : Nat → α} (hi : i < n) (hj : j + 1 ≤ i) (hlt : key (h (j + 1)) < key (h j)) (H : Inn key f n i (j + 1) h) :
    Inn key f n i j (fun x => if x = j then h (j + 1) else if x = j + 1 then h j else h x) := by
  obtain ⟨s, h1, h2, h3, h4, h5, h6⟩ := H
  have e1 := (h1 (j + 1) (by omega)).2
  have e0 := (h1 j (by omega)).2
  rw [e1, e0, h2] at hlt
  refine ⟨fun x => if x = j then s (j + 1) else if x = j + 1 then s j else s x, fun p hp => ?_, by simp [h2], fun p q hpq hq hp hq' => ?_, fun q hq hq' => ?_, fun p hp hp' => ?_, fun p hp hp' => ?_⟩
  · by_cases a : p = j
    · simp only [a, if_true]; exact ⟨(h1 (j + 1) (by omega)).1, e1⟩
    · by_cases b : p = j + 1
      · simp only [b]; simp; exact ⟨(h1 j (by omega)).1, e0⟩
      · simp only [a, b, if_false]; exact h1 p hp
  · by_cases b : p = j + 1
    · have c : ¬ q = j + 1 := by omega
      simp only [hq', b, c, if_false]; simp
      exact h3 j q (by omega) hq (by omega) c
    · by_cases c : q = j + 1
      · simp only [hp, b, c, if_false]; simp
        exact h3 p j (by omega) (by omega) b (by omega)
      · simp only [hp, hq', b, c, if_false]
        exact h3 p q hpq hq b c
  · by_cases c : q = j + 1
    · simp only [c]; simp; exact hlt
    · have d : ¬ q = j := by omega
      simp only [c, d, if_false]; exact h4 q (by omega) hq'
  · by_cases b : p = j + 1
    · simp only [b]; simp; exact h5 j (by omega) (by omega)
    · simp only [hp', b, if_false]; exact h5 p hp b
  · have a : ¬ p = j := by omega
    have b : ¬ p = j + 1 := by omega
    simp only [a, b, if_false]; exact h6 p hp hp'

theorem inn_done {α : Type} {key : α → Int} {f : Nat → α} {n i j : Nat} {h : Nat → α} (hi : i < n) (hj : j ≤ i) (hend : ∀ q, j = q + 1 → key (h q) ≤ key (h j)) (H : Inn key f n i j h) : Ins key f n (i + 1) h := by
  obtain ⟨s, h1, h2, h3, h4, h5, h6⟩ := H
  refine ⟨s, h1, fun p q hpq hq => ?_, fun p hp => ?_, fun p hp hp' => h6 p (by omega) hp'⟩
  · by_cases c : q = j
    · subst c
      obtain ⟨r, rfl⟩ : ∃ r, q = r + 1 := ⟨q - 1, by omega⟩
      have hk := hend r rfl
      rw [(h1 r (by omega)).2, (h1 (r + 1) (by omega)).2, h2] at hk
      have hr := h5 r (by omega) (by omega)
      have ar : ahead (fun i => key (f i)) (s r) (s (r + 1)) := by
        rw [h2]; unfold ahead; simp only; omega
      by_cases d : p = r
      · rw [d]; exact ar
      · exact ahead_trans (h3 p r (by omega) (by omega) (by omega) (by omega)) ar
    · by_cases d : p = j
      · subst d
        have := h4 q hpq (by omega)
        rw [h2]; exact Or.inl this
      · exact h3 p q hpq (by omega) d c
  · by_cases d : p = j
    · rw [d, h2]; omega
    · have := h5 p (by omega) d; omega

/-! ### counting -/

/-- the key above the least, as a number -/
def off {α : Type} (key : α → Int) (L : Int) (f : Nat → α) (i : Nat) : Nat := (key (f i) - L).toNat

/-- how many of the first n lie at x -/
def cAt {α : Type} (key : α → Int) (L : Int) (f : Nat → α) (n x : Nat) : Nat := cnt (fun i => decide (off key L f i = x)) n
/-- how many of the first n lie below x -/
def cLt {α : Type} (key : α → Int) (L : Int) (f : Nat → α) (n x : Nat) : Nat := cnt (fun i => decide (off key L f i < x)) n

theorem cAt_succ {α : Type} {key : α → Int} {L : Int} {f : Nat → α} {n x : Nat} : cAt key L f (n + 1) x = cAt key L f n x + (if off key L f n = x then 1 else 0) := by
  simp [cAt, cnt]
theorem cLt_zero {α : Type} {key : α → Int} {L : Int} {f : Nat → α} {n : Nat} : cLt key L f n 0 = 0 := by
  unfold cLt
  induction n with
  | zero => rfl
  | succ n ih => simp [cnt] at ih ⊢; exact ih
theorem cLt_succ {α : Type} {key : α → Int} {L : Int} {f : Nat → α} {n x : Nat} : cLt key L f n (x + 1) = cLt key L f n x + cAt key L f n x := by
  refine cnt_add fun i _ => ?_
  simp only [decide_eq_true_eq]
  by_cases a : off key L f i < x
  · rw [if_pos (by omega), if_pos a, if_neg (by omega)]
  · by_cases b : off key L f i = x
    · rw [if_pos (by omega), if_neg a, if_pos b]
    · rw [if_neg (by omega), if_neg a, if_neg b]
theorem cAt_le {α : Type} {key : α → Int} {L : Int} {f : Nat → α} {n x : Nat} : cAt key L f n x ≤ n := cnt_le _ _
theorem cLt_le {α : Type} {key : α → Int} {L : Int} {f : Nat → α} {n x : Nat} : cLt key L f n x ≤ n := cnt_le _ _
theorem cAt_nil {α : Type} {key : α → Int} {L : Int} {f : Nat → α} {x : Nat} : cAt key L f 0 x = 0 := rfl

theorem rank_count {α : Type} {key : α → Int} {L : Int} {f : Nat → α} {n j : Nat} (hL : ∀ i, i < n → L ≤ key (f i)) (hj : j < n) :
    rank (fun i => key (f i)) n j = cLt key L f n (off key L f j) + cAt key L f j (off key L f j) := by
  have h1 : cAt key L f j (off key L f j) = cnt (fun i => decide (off key L f i = off key L f j) && decide (i < j)) n := by
    rw [cnt_stop (m := j) (by omega) (fun i hi _ => by simp; intro _; omega)]
    exact cnt_congr fun i hi => by simp [hi]
  rw [h1]
  refine cnt_add fun i hi => ?_
  have a := hL i hi
  have b := hL j hj
  have ex : (off key L f i < off key L f j) = (key (f i) < key (f j)) := by rw [eq_iff_iff]; unfold off; omega
  have ee : (off key L f i = off key L f j) = (key (f i) = key (f j)) := by rw [eq_iff_iff]; unfold off; omega
  have : (aheadB (fun i => key (f i)) i j = true) = (key (f i) < key (f j) ∨ (key (f i) = key (f j) ∧ i < j)) := by rw [eq_iff_iff]; exact aheadB_iff _ _ _
  simp only [this, ex, ee, Bool.and_eq_true, decide_eq_true_eq]
  by_cases c : key (f i) < key (f j)
  · have d : ¬ key (f i) = key (f j) := by omega
    simp [c, d]
  · simp [c]
end Go.Proofs.Qxb6627207a
