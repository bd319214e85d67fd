import Derived.Test.Qxb6627207aConv
import Derived.Test.Qxb6627207aPlain
namespace Go.Proofs.Qxb6627207a
open Go.RowKit

theorem cntNat {p : Nat → Bool} {K : Nat} {b : Bool} (h : p K = b) : cnt p (K + 1) = cnt p K + (if b then 1 else 0) := by simp [cnt, h]

theorem num_up {a b : Nat} (h : b = a + 1) : Value.int .i64 ((a : Int) + 1) = .int .i64 (b : Int) := by subst h; rfl
theorem num_same {a b : Nat} (h : b = a) : Value.int .i64 (a : Int) = .int .i64 (b : Int) := by rw [h]

theorem rank_step {f h : Nat → Pd} {n J R : Nat} (hJ : J < n) (hR : rank (fun i => (f i).b) n J = R) (hh : ∀ j, j < J → h (rank (fun i => (f i).b) n j) = f j) :
    ∀ j, j < J + 1 → (fun i => if i = R then f J else h i) (rank (fun i => (f i).b) n j) = f j := by
  intro j hj
  by_cases e : j = J
  · subst e; simp [hR]
  · have hne : ¬ rank (fun i => (f i).b) n j = R := fun h => e (rank_inj (by omega) hJ (h.trans hR.symm))
    simp only [hne, if_false]
    exact hh j (by omega)

set_option maxHeartbeats 800000 in
theorem stab_pos (b o c n : Nat) (f : Nat → Pd) (w : World) (hn : n ≤ 4096) (hb : b < w.heap.size) (h1 : Has w b o n f) :
    Calls Try.prog 6 #[.slice (some ⟨b, o, none⟩) n c] w fun e w' => e = .returned (.slice (some ⟨w.heap.size, 0, none⟩) n n) ∧ (∃ h, Own w' w.heap.size 33 n h ∧ ∀ j, j < n → h (rank (fun i => (f i).b) n j) = f j) ∧ Below w.heap.size w w' := by
  have hmk := make22 n (by omega)
  go_enter Try.func6, Try.ntmps6
  go_wp2
  go_loopg [5, 6, 7] n (fun gk i _ _ wr => ∃ J : Nat, J ≤ n ∧ i = .int .i64 J ∧ gk = n - J ∧ (∃ h, Own wr w.heap.size 33 n h ∧ ∀ j, j < J → h (rank (fun i => (f i).b) n j) = f j) ∧ Below w.heap.size w wr)
  case atStart => exact ⟨0, Nat.zero_le _, rfl, rfl, ⟨_, own_made w n 33, fun j hj => by omega⟩, (Below.refl _ _).alloc (Nat.le_refl _) _⟩
  case round =>
    clear hmk
    obtain ⟨J, hJ, rfl, hg, ⟨h, hown, hh⟩, hbel⟩ := hrel
    have HH : Hid (∀ j, j < J → h (rank (fun i => (f i).b) n j) = f j) := hh
    clear hh
    have hw1 := h1.below hbel hb
    by_cases hlt : J < n
    · have hlt' : (J : Int) < (n : Int) := by omega
      go_wp2
      go_loopg [6, 7] n (fun gi r k wi => ∃ K m : Nat, K ≤ n ∧ k = .int .i64 K ∧ gi = n - K ∧ r = .int .i64 (cnt (fun i => aheadB (fun i => (f i).b) i J) K) ∧ wi = wr.drewN m)
      case atStart => exact ⟨0, 0, Nat.zero_le _, rfl, rfl, rfl, rfl⟩
      case round =>
        obtain ⟨K, m, hK, rfl, hgi, rfl, rfl⟩ := hrel
        have hle := cnt_le (fun i => aheadB (fun i => (f i).b) i J) K
        by_cases hKn : K < n
        · have hKn' : (K : Int) < (n : Int) := by omega
          have cJ := (hw1 J hlt).2.2
          have cK := (hw1 K hKn).2.2
          have CS : Hid (∀ bb, aheadB (fun i => (f i).b) K J = bb → cnt (fun i => aheadB (fun i => (f i).b) i J) (K + 1) = cnt (fun i => aheadB (fun i => (f i).b) i J) K + (if bb then 1 else 0)) := fun bb hb => cntNat hb
          have AH : Hid (aheadB (fun i => (f i).b) K J = (decide ((f K).b < (f J).b) || (decide ((f K).b = (f J).b) && decide (K < J)))) := rfl
          clear hw1 hown
          generalize cnt (fun i => aheadB (fun i => (f i).b) i J) K = C at *
          generalize (f K).b = x at cK AH
          generalize (f J).b = y at cJ AH
          by_cases q1 : x < y
          · have q1' : decide (x < y) = true := by simp [q1]
            go_wp2
            go_quiet (fail)
            go_wp2
            go_roundg (n - (K + 1))
            case measure => omega
            case rel => exact ⟨K + 1, _, by omega, by go_num, rfl, num_up (by rw [CS.out true (by rw [AH.out]; simp [q1])]; simp), rfl⟩
          · have q1' : decide (x < y) = false := by simp [q1]
            by_cases q2 : x = y
            · subst q2
              clear q1
              by_cases q3 : K < J
              · have q3' : (K : Int) < (J : Int) := by omega
                go_wp2
                go_quiet (fail)
                go_wp2
                go_roundg (n - (K + 1))
                case measure => omega
                case rel => exact ⟨K + 1, _, by omega, by go_num, rfl, num_up (by rw [CS.out true (by rw [AH.out]; simp [q3])]; simp), rfl⟩
              · have q3' : ¬ (K : Int) < (J : Int) := by omega
                go_wp2
                go_quiet (fail)
                go_wp2
                go_roundg (n - (K + 1))
                case measure => omega
                case rel => exact ⟨K + 1, _, by omega, by go_num, rfl, num_same (by rw [CS.out false (by rw [AH.out]; simp [q3])]; simp), rfl⟩
            · have q2' : (x == y) = false := by simp [q2]
              go_wp2
              go_quiet (fail)
              go_wp2
              go_roundg (n - (K + 1))
              case measure => omega
              case rel => exact ⟨K + 1, _, by omega, by go_num, rfl, num_same (by rw [CS.out false (by rw [AH.out]; simp [q1, q2])]; simp), rfl⟩
        · have e : K = n := by omega
          subst e
          clear hKn
          have RK : Hid (cnt (fun i => aheadB (fun i => (f i).b) i J) K = rank (fun i => (f i).b) K J) := rfl
          have hr := rank_lt (b := fun i => (f i).b) hlt
          rw [RK.out] at hle ⊢
          generalize hR : rank (fun i => (f i).b) K J = R at *
          have HR : Hid (rank (fun i => (f i).b) K J = R) := hR
          clear hR RK
          obtain ⟨c0, c1, c2⟩ := hw1 J hlt
          obtain ⟨d0, d1, d2⟩ := hown.has R hr
          have fz := hown.frozen
          simp only [Nat.zero_add] at d0 d1 d2
          have hr' : (R : Int) < (K : Int) := by omega
          go_wp2
          clear c0 c1 c2 d0 d1 d2 fz
          go_roundg (K - (J + 1))
          case measure => omega
          case rel => exact ⟨J + 1, by omega, by go_num, rfl, ⟨_, (hown.drewN m).set R (f J), rank_step hlt HR.out HH.out⟩, below_set3 (below_drewN' hbel m) (Nat.le_refl _) _ _ _ _ _ _⟩
    · go_wp2
      go_ret
      have : J = n := by omega
      subst this
      exact ⟨rfl, ⟨h, hown, HH.out⟩, hbel⟩
end Go.Proofs.Qxb6627207a
