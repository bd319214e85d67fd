import Derived.Test.Qxb6627207aProg
import Derived.Test.Qxb6627207aBase
import Derived.WalkKit
import Derived.Deep.QuietTactic
import Derived.BigQuiet
import Derived.Deep.LoopGhost
namespace Go.Proofs.Qxb6627207a
open Go.RowKit

set_option maxHeartbeats 400000 in
theorem same_pos (b o c b' o' c' n : Nat) (f g : Nat → Pd) (w : World) (hn : n ≤ 4096) (h1 : Has w b o n f) (h2 : Has w b' o' n g) :
    Calls Try.prog 10 #[.slice (some ⟨b, o, none⟩) n c, .slice (some ⟨b', o', none⟩) n c'] w fun e w' => (∃ r : Bool, e = .returned (.bool r) ∧ (r = true ↔ ∀ j, j < n → f j = g j)) ∧ ∃ m, w' = w.drewN m := by
  go_enter Try.func10, Try.ntmps10
  go_wp2
  go_loopg [5] n (fun gk i wr => ∃ k m : Nat, k ≤ n ∧ i = .int .i64 k ∧ gk = n - k ∧ wr = w.drewN m ∧ ∀ j, j < k → f j = g j)
  case atStart => exact ⟨0, 0, Nat.zero_le _, rfl, rfl, rfl, fun j hj => by omega⟩
  case round =>
    obtain ⟨k, m, hk, rfl, hg, rfl, heq⟩ := hrel
    have HE : Hid (∀ j, j < k → f j = g j) := heq
    clear heq
    by_cases hlt : k < n
    · obtain ⟨c0, c1, c2⟩ := h1 k hlt
      obtain ⟨d0, d1, d2⟩ := h2 k hlt
      have HF : Hid ((∀ j, j < n → f j = g j) → f k = g k) := fun h => h k hlt
      have HN : Hid (f k = g k → ∀ j, j < k + 1 → f j = g j) := fun h j hj => by
        by_cases e : j = k
        · rw [e]; exact h
        · exact HE.out j (by omega)
      clear h1 h2
      have hlt' : (k : Int) < (n : Int) := by omega
      generalize f k = F at c0 c1 c2 HF HN
      generalize g k = G at d0 d1 d2 HF HN
      obtain ⟨F0, F1, F2⟩ := F
      obtain ⟨G0, G1, G2⟩ := G
      simp only at c0 c1 c2 d0 d1 d2
      have bad : (F0 ≠ G0 ∨ F1 ≠ G1 ∨ F2 ≠ G2) → (false = true ↔ (∀ j, j < n → f j = g j)) := by
        intro h
        refine ⟨fun h => by simp at h, fun hh => ?_⟩
        have := HF.out hh
        simp only [Pd.mk.injEq] at this
        omega
      have BAD : Hid ((F0 ≠ G0 ∨ F1 ≠ G1 ∨ F2 ≠ G2) → (false = true ↔ (∀ j, j < n → f j = g j))) := bad
      clear bad HF
      by_cases e0 : F0 = G0
      · subst e0
        by_cases e1 : F1 = G1
        · subst e1
          by_cases e2 : F2 = G2
          · subst e2
            clear BAD
            go_wp2
            go_quiet (fail)
            go_wp2
            go_roundg (n - (k + 1))
            case measure => omega
            case rel => exact ⟨k + 1, _, by omega, by go_num, rfl, rfl, HN.out trivial⟩
          · have b2 : (F2 != G2) = true := by simp [e2]
            go_wp2
            go_quiet (fail)
            go_wp2
            go_ret
            exact ⟨⟨_, rfl, BAD.out (by omega)⟩, _, World.drewN_drewN _ _ _⟩
        · have b1 : (F1 != G1) = true := by simp [e1]
          go_wp2
          go_quiet (fail)
          go_wp2
          go_ret
          exact ⟨⟨_, rfl, BAD.out (by omega)⟩, _, World.drewN_drewN _ _ _⟩
      · have b0 : (F0 != G0) = true := by simp [e0]
        go_wp2
        go_quiet (fail)
        go_wp2
        go_ret
        exact ⟨⟨_, rfl, BAD.out (by omega)⟩, _, World.drewN_drewN _ _ _⟩
    · have e : k = n := by omega
      subst e
      go_wp2
      go_ret
      exact ⟨⟨_, rfl, fun _ => HE.out, fun _ => rfl⟩, _, rfl⟩

set_option maxHeartbeats 400000 in
theorem same_zero (a a' : Option Addr) (c c' : Nat) (w : World) :
    Calls Try.prog 10 #[.slice a 0 c, .slice a' 0 c'] w fun e w' => e = .returned (.bool true) ∧ w' = w := by
  go_enter Try.func10, Try.ntmps10
  go_wp2
  refine wp_loop_rounds 1 ?_
  rw [rounds_succ]
  go_wp2
  go_ret
  exact ⟨rfl, rfl⟩

/-- what a slice value reads as: nothing is asked of the address of an empty one -/
def HasO (w : World) (a : Option Addr) (n : Nat) (f : Nat → Pd) : Prop := 0 < n → ∃ b o, a = some ⟨b, o, none⟩ ∧ Has w b o n f

theorem same_true (a a' : Option Addr) (c c' n : Nat) (f g : Nat → Pd) (w : World) (hn : n ≤ 4096) (h1 : HasO w a n f) (h2 : HasO w a' n g) (he : ∀ j, j < n → f j = g j) :
    Calls Try.prog 10 #[.slice a n c, .slice a' n c'] w fun e w' => e = .returned (.bool true) ∧ ∃ m, w' = w.drewN m := by
  by_cases h0 : n = 0
  · subst h0
    exact (same_zero a a' c c' w).mono fun e w' ⟨h, h'⟩ => ⟨h, 0, h'⟩
  · obtain ⟨b, o, rfl, k1⟩ := h1 (by omega)
    obtain ⟨b', o', rfl, k2⟩ := h2 (by omega)
    refine (same_pos b o c b' o' c' n f g w hn k1 k2).mono fun e w' ⟨⟨r, h, hr⟩, h'⟩ => ⟨?_, h'⟩
    rw [h, hr.2 he]

theorem same_false (a a' : Option Addr) (c c' n : Nat) (f g : Nat → Pd) (w : World) (hn : n ≤ 4096) (h1 : HasO w a n f) (h2 : HasO w a' n g) (he : ¬ ∀ j, j < n → f j = g j) :
    Calls Try.prog 10 #[.slice a n c, .slice a' n c'] w fun e w' => e = .returned (.bool false) ∧ ∃ m, w' = w.drewN m := by
  have h0 : 0 < n := Nat.pos_of_ne_zero fun h => he (by subst h; intro j hj; omega)
  obtain ⟨b, o, rfl, k1⟩ := h1 h0
  obtain ⟨b', o', rfl, k2⟩ := h2 h0
  refine (same_pos b o c b' o' c' n f g w hn k1 k2).mono fun e w' ⟨⟨r, h, hr⟩, h'⟩ => ⟨?_, h'⟩
  have : r = false := by
    cases r
    · rfl
    · exact absurd (hr.1 rfl) he
  rw [h, this]
end Go.Proofs.Qxb6627207a
