/- plain mathematics: the merge of two stable arrangements. No Go here. -/
import Derived.Test.Qxb6627207aPlain2
namespace Go.Proofs.Qxb6627207a

/-- i of the left and j of the right have been taken -/
def Mer {α : Type} (key : α → Int) (f : Nat → α) (na nb : Nat) (sl sr : Nat → Nat) (i j : Nat) (h : Nat → α) : Prop :=
  ∃ t : Nat → Nat, (∀ p, p < i + j → t p < na + nb ∧ h p = f (t p)) ∧ (∀ p q, p < q → q < i + j → ahead (fun i => key (f i)) (t p) (t q)) ∧
    (∀ p, p < i + j → i < na → ahead (fun i => key (f i)) (t p) (sl i)) ∧ (∀ p, p < i + j → j < nb → ahead (fun i => key (f i)) (t p) (na + sr j))

theorem mer_zero {α : Type} {key : α → Int} {f : Nat → α} {na nb : Nat} {sl sr : Nat → Nat} {h : Nat → α} : Mer key f na nb sl sr 0 0 h :=
  ⟨fun p => p, fun p hp => by omega, fun p q hp hq => by omega, fun p hp => by omega, fun p hp => by omega⟩

theorem mer_left {α : Type} {key : α → Int} {f x y : Nat → α} {na nb : Nat} {sl sr : Nat → Nat} {i j : Nat} {h : Nat → α}
    (hx : ∀ p, p < na → sl p < na ∧ x p = f (sl p)) (hxm : ∀ p q, p < q → q < na → ahead (fun i => key (f i)) (sl p) (sl q))
    (hy : ∀ p, p < nb → y p = f (na + sr p))
    (hi : i < na) (hk : j < nb → key (x i) ≤ key (y j)) (H : Mer key f na nb sl sr i j h) : Mer key f na nb sl sr (i + 1) j (fun p => if p = i + j then x i else h p) := by
  obtain ⟨t, h1, h2, h3, h4⟩ := H
  have hs := hx i hi
  refine ⟨fun p => if p = i + j then sl i else t p, fun p hp => ?_, fun p q hpq hq => ?_, fun p hp hi' => ?_, fun p hp hj => ?_⟩
  · by_cases e : p = i + j
    · simp only [e, if_true]; exact ⟨by omega, hs.2⟩
    · simp only [e, if_false]; exact h1 p (by omega)
  · have e : ¬ p = i + j := by omega
    by_cases e' : q = i + j
    · simp only [e, e', if_true, if_false]; exact h3 p (by omega) hi
    · simp only [e, e', if_false]; exact h2 p q hpq (by omega)
  · by_cases e : p = i + j
    · simp only [e, if_true]; exact hxm i (i + 1) (by omega) hi'
    · simp only [e, if_false]; exact ahead_trans (h3 p (by omega) hi) (hxm i (i + 1) (by omega) hi')
  · by_cases e : p = i + j
    · simp only [e, if_true]
      have := hk hj
      rw [hs.2, hy j hj] at this
      unfold ahead
      simp only
      omega
    · simp only [e, if_false]; exact h4 p (by omega) hj

theorem mer_right {α : Type} {key : α → Int} {f x y : Nat → α} {na nb : Nat} {sl sr : Nat → Nat} {i j : Nat} {h : Nat → α}
    (hx : ∀ p, p < na → sl p < na ∧ x p = f (sl p))
    (hy : ∀ p, p < nb → sr p < nb ∧ y p = f (na + sr p)) (hym : ∀ p q, p < q → q < nb → ahead (fun i => key (f i)) (na + sr p) (na + sr q))
    (hj : j < nb) (hk : i < na → key (y j) < key (x i)) (H : Mer key f na nb sl sr i j h) : Mer key f na nb sl sr i (j + 1) (fun p => if p = i + j then y j else h p) := by
  obtain ⟨t, h1, h2, h3, h4⟩ := H
  have hs := hy j hj
  refine ⟨fun p => if p = i + j then na + sr j else t p, fun p hp => ?_, fun p q hpq hq => ?_, fun p hp hi => ?_, fun p hp hj' => ?_⟩
  · by_cases e : p = i + j
    · simp only [e, if_true]; exact ⟨by omega, hs.2⟩
    · simp only [e, if_false]; exact h1 p (by omega)
  · have e : ¬ p = i + j := by omega
    by_cases e' : q = i + j
    · simp only [e, e', if_true, if_false]; exact h4 p (by omega) hj
    · simp only [e, e', if_false]; exact h2 p q hpq (by omega)
  · by_cases e : p = i + j
    · simp only [e, if_true]
      have := hk hi
      rw [hs.2, (hx i hi).2] at this
      exact Or.inl this
    · simp only [e, if_false]; exact h3 p (by omega) hi
  · by_cases e : p = i + j
    · simp only [e, if_true]; exact hym j (j + 1) (by omega) hj'
    · simp only [e, if_false]; exact ahead_trans (h4 p (by omega) hj) (hym j (j + 1) (by omega) hj')

theorem mer_all {α : Type} {key : α → Int} {f : Nat → α} {na nb : Nat} {sl sr : Nat → Nat} {h : Nat → α} (H : Mer key f na nb sl sr na nb h) : Stable key (na + nb) f h := by
  obtain ⟨t, h1, h2, _, _⟩ := H
  exact ⟨t, h1, h2⟩

/-- what the merging loop keeps, whatever it is -/
structure Keeps {α : Type} (key : α → Int) (na nb : Nat) (x y : Nat → α) (R : Nat → Nat → (Nat → α) → Prop) : Prop where
  zero : ∀ h, R 0 0 h
  left : ∀ i j h, i < na → (j < nb → key (x i) ≤ key (y j)) → R i j h → R (i + 1) j (fun p => if p = i + j then x i else h p)
  right : ∀ i j h, j < nb → (i < na → key (y j) < key (x i)) → R i j h → R i (j + 1) (fun p => if p = i + j then y j else h p)

theorem merge_keeps {α : Type} {key : α → Int} {f x y : Nat → α} {na nb : Nat} (hx : Stable key na f x) (hy : Stable key nb (fun j => f (na + j)) y) :
    ∃ R : Nat → Nat → (Nat → α) → Prop, Keeps key na nb x y R ∧ ∀ h, R na nb h → Stable key (na + nb) f h := by
  obtain ⟨sl, x1, x2⟩ := hx
  obtain ⟨sr, y1, y2⟩ := hy
  have y2' : ∀ p q, p < q → q < nb → ahead (fun i => key (f i)) (na + sr p) (na + sr q) := by
    intro p q hpq hq
    have := y2 p q hpq hq
    unfold ahead at this ⊢
    simp only at this ⊢
    omega
  refine ⟨Mer key f na nb sl sr, ⟨fun _ => mer_zero, fun i j h hi hk H => mer_left x1 x2 (fun p hp => (y1 p hp).2) hi hk H, fun i j h hj hk H => mer_right x1 y1 y2' hj hk H⟩, fun h H => mer_all H⟩

theorem Stable.none {α : Type} {key : α → Int} {f h : Nat → α} : Stable key 0 f h := ⟨fun p => p, fun p hp => by omega, fun p q _ hq => by omega⟩
end Go.Proofs.Qxb6627207a
