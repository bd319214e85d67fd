/- plain mathematics: ranks, stable arrangements. No Go here. -/
namespace Go.Proofs.Qxb6627207a

/-- how many of the numbers below n meet p -/
def cnt (p : Nat → Bool) : Nat → Nat
  | 0 => 0
  | n + 1 => cnt p n + (if p n then 1 else 0)

theorem cnt_le (p : Nat → Bool) (n : Nat) : cnt p n ≤ n := by
  induction n with
  | zero => simp [cnt]
  | succ n ih => simp only [cnt]; split <;> omega

theorem cnt_mono (p : Nat → Bool) {m n : Nat} (h : m ≤ n) : cnt p m ≤ cnt p n := by
  induction n with
  | zero => have : m = 0 := by omega
            subst this; exact Nat.le_refl _
  | succ n ih =>
    by_cases e : m = n + 1
    · subst e; exact Nat.le_refl _
    · have := ih (by omega); simp only [cnt]; omega

theorem cnt_imp {p q : Nat → Bool} {n : Nat} (h : ∀ i, i < n → p i = true → q i = true) : cnt p n ≤ cnt q n := by
  induction n with
  | zero => exact Nat.le_refl _
  | succ n ih =>
    have h1 := ih fun i hi => h i (by omega)
    have h2 := h n (by omega)
    simp only [cnt]
    by_cases hp : p n = true
    · simp [hp, h2 hp, h1]
    · rw [if_neg hp]; omega

theorem cnt_congr {p q : Nat → Bool} {n : Nat} (h : ∀ i, i < n → p i = q i) : cnt p n = cnt q n := by
  induction n with
  | zero => rfl
  | succ n ih => simp only [cnt, ih fun i hi => h i (by omega), h n (by omega)]

/-- strictly more: a number that q meets and p does not -/
theorem cnt_lt {p q : Nat → Bool} {n : Nat} (h : ∀ i, i < n → p i = true → q i = true) {j : Nat} (hj : j < n) (hp : p j = false) (hq : q j = true) : cnt p n < cnt q n := by
  induction n with
  | zero => omega
  | succ n ih =>
    by_cases e : j = n
    · subst e
      have := cnt_imp (p := p) (q := q) (n := j) fun i hi => h i (by omega)
      simp [cnt, hp, hq]; omega
    · have h1 := ih (fun i hi => h i (by omega)) (by omega)
      have h2 := h n (by omega)
      simp only [cnt]
      by_cases hp' : p n = true
      · simp [hp', h2 hp', h1]
      · rw [if_neg hp']; omega

theorem cnt_lt_self {p : Nat → Bool} {n j : Nat} (hj : j < n) (hp : p j = false) : cnt p n < n := by
  have h := cnt_lt (p := p) (q := fun _ => true) (n := n) (fun _ _ _ => rfl) hj hp rfl
  have h2 := cnt_le (fun _ => true) n
  omega

theorem cnt_add {p q r : Nat → Bool} {n : Nat} (h : ∀ i, i < n → (if r i then 1 else 0) = (if p i then 1 else 0) + (if q i then (1 : Nat) else 0)) : cnt r n = cnt p n + cnt q n := by
  induction n with
  | zero => rfl
  | succ n ih =>
    have h1 := ih fun i hi => h i (by omega)
    have h2 := h n (by omega)
    simp only [cnt]; omega

/-- nothing is met from m on -/
theorem cnt_stop {p : Nat → Bool} {m n : Nat} (hm : m ≤ n) (h : ∀ i, m ≤ i → i < n → p i = false) : cnt p n = cnt p m := by
  induction n with
  | zero => have : m = 0 := by omega
            subst this; rfl
  | succ n ih =>
    by_cases e : m = n + 1
    · subst e; rfl
    · simp [cnt, h n (by omega) (by omega), ih (by omega) fun i hi hi' => h i hi (by omega)]

/-- j stands ahead of k in the stable order by the key b -/
def ahead (b : Nat → Int) (j k : Nat) : Prop := b j < b k ∨ (b j = b k ∧ j < k)
def aheadB (b : Nat → Int) (j k : Nat) : Bool := decide (b j < b k) || (decide (b j = b k) && decide (j < k))
theorem aheadB_iff (b : Nat → Int) (j k : Nat) : aheadB b j k = true ↔ ahead b j k := by simp [aheadB, ahead]
theorem ahead_total (b : Nat → Int) {j k : Nat} (h : j ≠ k) : ahead b j k ∨ ahead b k j := by unfold ahead; omega
theorem ahead_trans {b : Nat → Int} {i j k : Nat} (h : ahead b i j) (h' : ahead b j k) : ahead b i k := by unfold ahead at *; omega
theorem ahead_irrefl (b : Nat → Int) (j : Nat) : ¬ ahead b j j := by unfold ahead; omega

/-- the rank of j among the first n -/
def rank (b : Nat → Int) (n j : Nat) : Nat := cnt (fun k => aheadB b k j) n

theorem rank_lt {b : Nat → Int} {n j : Nat} (hj : j < n) : rank b n j < n := by
  refine cnt_lt_self hj ?_
  have := ahead_irrefl b j
  rw [← aheadB_iff] at this
  simpa using this

theorem rank_mono {b : Nat → Int} {n j k : Nat} (hj : j < n) (h : ahead b j k) : rank b n j < rank b n k := by
  refine cnt_lt (fun i _ hi => ?_) hj ?_ ?_
  · rw [aheadB_iff] at *; exact ahead_trans hi h
  · have := ahead_irrefl b j
    rw [← aheadB_iff] at this
    simpa using this
  · rw [aheadB_iff]; exact h

theorem rank_inj {b : Nat → Int} {n j k : Nat} (hj : j < n) (hk : k < n) (h : rank b n j = rank b n k) : j = k := by
  by_cases e : j = k
  · exact e
  · rcases ahead_total b e with h1 | h1
    · have := rank_mono hj h1; omega
    · have := rank_mono hk h1; omega

theorem ahead_of_rank {b : Nat → Int} {n j k : Nat} (hk : k < n) (h : rank b n j < rank b n k) : ahead b j k := by
  by_cases e : j = k
  · subst e; omega
  · rcases ahead_total b e with h1 | h1
    · exact h1
    · have := rank_mono hk h1; omega

theorem pigeon : ∀ (n : Nat) (g : Nat → Nat), (∀ j, j < n → g j < n) → (∀ i j, i < n → j < n → g i = g j → i = j) → ∀ y, y < n → ∃ j, j < n ∧ g j = y := by
  intro n
  induction n with
  | zero => intro _ _ _ y hy; omega
  | succ n ih =>
    intro g hlt hinj y hy
    have hm := hlt n (by omega)
    have hs := ih (fun j => if g j = n then g n else g j) (fun j hj => by
        have h1 := hlt j (by omega)
        by_cases e : g j = n
        · simp only [e, if_true]
          have : g n ≠ n := fun h => by have := hinj j n (by omega) (by omega) (by omega); omega
          omega
        · simp only [e, if_false]; omega) (fun i j hi hj h => by
        by_cases e1 : g i = n
        · by_cases e2 : g j = n
          · exact hinj i j (by omega) (by omega) (by omega)
          · simp only [e1, e2, if_true, if_false] at h
            have := hinj n j (by omega) (by omega) h; omega
        · by_cases e2 : g j = n
          · simp only [e1, e2, if_true, if_false] at h
            have := hinj i n (by omega) (by omega) h; omega
          · simp only [e1, e2, if_false] at h
            exact hinj i j (by omega) (by omega) h)
    by_cases ey : y = g n
    · exact ⟨n, by omega, ey.symm⟩
    by_cases e : y = n
    · subst e
      obtain ⟨j, hj, h⟩ := hs (g y) (by omega)
      by_cases e1 : g j = y
      · exact ⟨j, by omega, e1⟩
      · simp only [e1, if_false] at h
        have := hinj j y (by omega) (by omega) h; omega
    · obtain ⟨j, hj, h⟩ := hs y (by omega)
      by_cases e1 : g j = n
      · simp only [e1, if_true] at h; omega
      · simp only [e1, if_false] at h
        exact ⟨j, by omega, h⟩

theorem rank_surj (b : Nat → Int) (n y : Nat) (hy : y < n) : ∃ j, j < n ∧ rank b n j = y :=
  pigeon n (rank b n) (fun _ hj => rank_lt hj) (fun _ _ hi hj h => rank_inj hi hj h) y hy

/-- a strictly increasing map of the first n into themselves is the identity -/
theorem incr_id {n : Nat} {g : Nat → Nat} (hlt : ∀ p, p < n → g p < n) (hs : ∀ p q, p < q → q < n → g p < g q) : ∀ p, p < n → g p = p := by
  have lo : ∀ p, p < n → p ≤ g p := by
    intro p
    induction p with
    | zero => intro _; exact Nat.zero_le _
    | succ p ih => intro hp; have h1 := ih (by omega); have := hs p (p + 1) (by omega) hp; omega
  have hi : ∀ d p, p < n → n - p = d → g p ≤ p := by
    intro d
    induction d with
    | zero => intro p hp h; omega
    | succ d ih =>
      intro p hp h
      by_cases e : p + 1 < n
      · have h1 := ih (p + 1) e (by omega); have := hs p (p + 1) (by omega) e; omega
      · have := hlt p hp; omega
  intro p hp
  have := lo p hp
  have := hi _ p hp rfl
  omega

/-- h is the stable arrangement of the first n of f by the key -/
def Stable {α : Type} (key : α → Int) (n : Nat) (f h : Nat → α) : Prop :=
  ∃ s : Nat → Nat, (∀ p, p < n → s p < n ∧ h p = f (s p)) ∧ ∀ p q, p < q → q < n → ahead (fun i => key (f i)) (s p) (s q)

theorem Stable.unique {α : Type} {key : α → Int} {n : Nat} {f h h' : Nat → α} (H : Stable key n f h) (H' : Stable key n f h') : ∀ p, p < n → h p = h' p := by
  obtain ⟨s, h1, h2⟩ := H
  obtain ⟨s', h1', h2'⟩ := H'
  intro p hp
  have e := incr_id (n := n) (g := fun p => rank (fun i => key (f i)) n (s p)) (fun p hp => rank_lt (h1 p hp).1) (fun p q hpq hq => rank_mono (h1 p (by omega)).1 (h2 p q hpq hq)) p hp
  have e' := incr_id (n := n) (g := fun p => rank (fun i => key (f i)) n (s' p)) (fun p hp => rank_lt (h1' p hp).1) (fun p q hpq hq => rank_mono (h1' p (by omega)).1 (h2' p q hpq hq)) p hp
  have := rank_inj (h1 p hp).1 (h1' p hp).1 (e.trans e'.symm)
  rw [(h1 p hp).2, (h1' p hp).2, this]

theorem Stable.of_rank {α : Type} {key : α → Int} {n : Nat} {f h : Nat → α} (H : ∀ j, j < n → h (rank (fun i => key (f i)) n j) = f j) : Stable key n f h := by
  have hs := rank_surj (fun i => key (f i)) n
  refine ⟨fun p => if hp : p < n then (hs p hp).choose else 0, fun p hp => ?_, fun p q hpq hq => ?_⟩
  · have h1 := (hs p hp).choose_spec
    simp only [hp, dif_pos]
    refine ⟨h1.1, ?_⟩
    rw [← H _ h1.1, h1.2]
  · have hp : p < n := by omega
    have h1 := (hs p hp).choose_spec
    have h2 := (hs q hq).choose_spec
    simp only [hp, hq, dif_pos]
    exact ahead_of_rank h2.1 (by rw [h1.2, h2.2]; exact hpq)

theorem Stable.nondecr {α : Type} {key : α → Int} {n : Nat} {f h : Nat → α} (H : Stable key n f h) {p : Nat} (hp : p + 1 < n) : key (h p) ≤ key (h (p + 1)) := by
  obtain ⟨s, h1, h2⟩ := H
  have := h2 p (p + 1) (by omega) hp
  rw [(h1 p (by omega)).2, (h1 (p + 1) hp).2]
  unfold ahead at this
  simp only at this
  omega

theorem Stable.congr {α : Type} {key : α → Int} {n : Nat} {f h h' : Nat → α} (H : Stable key n f h) (e : ∀ p, p < n → h p = h' p) : Stable key n f h' := by
  obtain ⟨s, h1, h2⟩ := H
  exact ⟨s, fun p hp => ⟨(h1 p hp).1, (e p hp).symm.trans (h1 p hp).2⟩, h2⟩

/-- all keys are one: nothing moves -/
theorem Stable.flat {α : Type} {key : α → Int} {n : Nat} {f : Nat → α} (H : ∀ i j, i < n → j < n → key (f i) = key (f j)) : Stable key n f f :=
  ⟨fun p => p, fun _ hp => ⟨hp, rfl⟩, fun p q hpq hq => Or.inr ⟨H p q (by omega) hq, hpq⟩⟩
end Go.Proofs.Qxb6627207a
