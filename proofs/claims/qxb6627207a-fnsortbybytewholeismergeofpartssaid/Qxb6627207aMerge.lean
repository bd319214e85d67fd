import Derived.Test.Qxb6627207aConv
import Derived.Test.Qxb6627207aKept
import Derived.Test.Qxb6627207aPlain3
import Derived.BigRegion
namespace Go.Proofs.Qxb6627207a
open Go.RowKit

set_option maxHeartbeats 400000 in
theorem nondecr (b o c n : Nat) (f : Nat → Pd) (w : World) (h1n : 1 ≤ n) (hn : n ≤ 4096) (h1 : Has w b o n f) (hs : ∀ p, p + 1 < n → (f p).b ≤ (f (p + 1)).b) :
    Calls Try.prog 14 #[.slice (some ⟨b, o, none⟩) n c] w fun e w' => e = .returned (.bool true) ∧ ∃ m, w' = w.drewN m := by
  go_enter Try.func14, Try.ntmps14
  go_wp2
  go_loopg [3] (n - 1) (fun gk i wr => ∃ k m : Nat, k + 1 ≤ n ∧ i = .int .i64 ((k + 1 : Nat) : Int) ∧ gk = n - (k + 1) ∧ wr = w.drewN m)
  case atStart => exact ⟨0, 0, by omega, rfl, by omega, rfl⟩
  case round =>
    obtain ⟨k, m, hk, rfl, hg, rfl⟩ := hrel
    by_cases hlt : k + 1 < n
    · have c0 := (h1 k (by omega)).2.2
      have c1 := (h1 (k + 1) hlt).2.2
      have hle := hs k hlt
      have q1 : ((k + 1 : Nat) : Int) < (n : Int) := by omega
      have q2 : (k : Int) < (n : Int) := by omega
      clear hs h1
      go_wp2
      go_quiet (fail)
      go_wp2
      go_roundg (n - (k + 1 + 1))
      case measure => omega
      case rel => exact ⟨k + 1, _, by omega, by go_num, rfl, rfl⟩
    · go_wp2
      go_ret
      exact ⟨rfl, _, rfl⟩

set_option maxHeartbeats 800000 in
theorem merge_any (ga ca gb cb na nb : Nat) (x y : Nat → Pd) (R : Nat → Nat → (Nat → Pd) → Prop) (w : World) (hn : na + nb ≤ 4096) (hga : ga < w.heap.size) (hgb : gb < w.heap.size) (hx : Has w ga 0 na x) (hy : Has w gb 0 nb y) (hR : Keeps Pd.b na nb x y R) :
    Calls Try.prog 13 #[.slice (some ⟨ga, 0, none⟩) na ca, .slice (some ⟨gb, 0, none⟩) nb cb] w fun e w' => e = .returned (.slice (some ⟨w.heap.size, 0, none⟩) (na + nb) (na + nb)) ∧ (∃ h, Own w' w.heap.size 33 (na + nb) h ∧ R na nb h) ∧ Below w.heap.size w w' := by
  have hmk := make22 (na + nb) (by omega)
  rw [show ((na + nb : Nat) : Int) = (na : Int) + (nb : Int) from by omega] at hmk
  go_enter Try.func13, Try.ntmps13
  go_wp2
  go_loopg [6, 7, 8] (na + nb) (fun gk i j o wr => ∃ I J : Nat, I ≤ na ∧ J ≤ nb ∧ i = .int .i64 I ∧ j = .int .i64 J ∧ o = .int .i64 ((I + J : Nat) : Int) ∧ gk = na + nb - (I + J) ∧ (∃ h, Own wr w.heap.size 33 (na + nb) h ∧ R I J h) ∧ Below w.heap.size w wr)
  case atStart => exact ⟨0, 0, by omega, by omega, rfl, rfl, rfl, by omega, ⟨_, own_made w (na + nb) 33, hR.zero _⟩, (Below.refl _ _).alloc (Nat.le_refl _) _⟩
  case round =>
    clear hmk
    obtain ⟨I, J, hI, hJ, rfl, rfl, rfl, hg, ⟨h, hown, hr⟩, hbel⟩ := hrel
    have hx1 := hx.below hbel hga
    have hy1 := hy.below hbel hgb
    have fz := hown.frozen
    by_cases hi : I < na
    · obtain ⟨a0, a1, a2⟩ := hx1 I hi
      obtain ⟨d0, d1, d2⟩ := hown.has (I + J) (by omega)
      simp only [Nat.zero_add] at a0 a1 a2 d0 d1 d2
      have q1 : decide ((I : Int) < (na : Int)) = true := by simp; omega
      have q1' : (I : Int) < (na : Int) := by omega
      have q2 : ((I + J : Nat) : Int) < ((na + nb : Nat) : Int) := by omega
      by_cases hj : J < nb
      · obtain ⟨b0, b1, b2⟩ := hy1 J hj
        simp only [Nat.zero_add] at b0 b1 b2
        have q3 : decide ((nb : Int) ≤ (J : Int)) = false := by simp; omega
        have q3n : decide (nb ≤ J) = false := by simp; omega
        have q1n : decide (I < na) = true := by simp; omega
        have q3' : (J : Int) < (nb : Int) := by omega
        clear hx1 hy1 hx hy
        by_cases hk : (x I).b ≤ (y J).b
        · have HR : Hid (R (I + 1) J (fun p => if p = I + J then x I else h p)) := hR.left I J h hi (fun _ => hk) hr
          clear hr hR
          go_wp2
          go_quiet (fail)
          go_wp2
          go_roundg (na + nb - (I + 1 + J))
          case measure => omega
          case rel => exact ⟨I + 1, J, by omega, by omega, by go_num, rfl, by go_num, rfl, ⟨_, (hown.drewN _).set (I + J) (x I), HR.out⟩, below_set3 (below_drewN' hbel _) (Nat.le_refl _) _ _ _ _ _ _⟩
        · have HR : Hid (R I (J + 1) (fun p => if p = I + J then y J else h p)) := hR.right I J h hj (fun _ => by omega) hr
          clear hr hR
          go_wp2
          go_quiet (fail)
          go_wp2
          go_roundg (na + nb - (I + (J + 1)))
          case measure => omega
          case rel => exact ⟨I, J + 1, by omega, by omega, rfl, by go_num, by go_num, rfl, ⟨_, (hown.drewN _).set (I + J) (y J), HR.out⟩, below_set3 (below_drewN' hbel _) (Nat.le_refl _) _ _ _ _ _ _⟩
      · have HR : Hid (R (I + 1) J (fun p => if p = I + J then x I else h p)) := hR.left I J h hi (fun h => absurd h hj) hr
        have q3n : decide (nb ≤ J) = true := by simp; omega
        clear hr hR hx1 hy1 hx hy
        go_wp2
        go_quiet (fail)
        go_wp2
        go_roundg (na + nb - (I + 1 + J))
        case measure => omega
        case rel => exact ⟨I + 1, J, by omega, by omega, by go_num, rfl, by go_num, rfl, ⟨_, (hown.drewN _).set (I + J) (x I), HR.out⟩, below_set3 (below_drewN' hbel _) (Nat.le_refl _) _ _ _ _ _ _⟩
    · have q1 : decide ((I : Int) < (na : Int)) = false := by simp; omega
      by_cases hj : J < nb
      · obtain ⟨b0, b1, b2⟩ := hy1 J hj
        obtain ⟨d0, d1, d2⟩ := hown.has (I + J) (by omega)
        simp only [Nat.zero_add] at b0 b1 b2 d0 d1 d2
        have q2 : ((I + J : Nat) : Int) < ((na + nb : Nat) : Int) := by omega
        have q3 : decide ((nb : Int) ≤ (J : Int)) = false := by simp; omega
        have q3' : (J : Int) < (nb : Int) := by omega
        have HR : Hid (R I (J + 1) (fun p => if p = I + J then y J else h p)) := hR.right I J h hj (fun h => absurd h hi) hr
        have q1n : decide (I < na) = false := by simp; omega
        have q3n : decide (nb ≤ J) = false := by simp; omega
        clear hr hR hx1 hy1 hx hy
        go_wp2
        go_quiet (fail)
        go_wp2
        go_roundg (na + nb - (I + (J + 1)))
        case measure => omega
        case rel => exact ⟨I, J + 1, by omega, by omega, rfl, by go_num, by go_num, rfl, ⟨_, (hown.drewN _).set (I + J) (y J), HR.out⟩, below_set3 (below_drewN' hbel _) (Nat.le_refl _) _ _ _ _ _ _⟩
      · have e1 : I = na := by omega
        have e2 : J = nb := by omega
        subst e1 e2
        have q3 : decide ((J : Int) < (J : Int)) = false := by simp
        clear hR
        go_wp2
        go_ret
        exact ⟨rfl, ⟨h, hown, hr⟩, hbel⟩
end Go.Proofs.Qxb6627207a
