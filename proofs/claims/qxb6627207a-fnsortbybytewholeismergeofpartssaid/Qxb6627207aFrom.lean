import Derived.Test.Qxb6627207aConv
namespace Go.Proofs.Qxb6627207a
open Go.RowKit

set_option maxHeartbeats 400000 in
theorem from_pos (b o c n : Nat) (f : Nat → Pd) (w : World) (hn : n ≤ 4096) (hb : b < w.heap.size) (h1 : Has w b o n f) :
    Calls Try.prog 9 #[.slice (some ⟨b, o, none⟩) n c] w fun e w' => e = .returned (.slice (some ⟨w.heap.size, 0, none⟩) n n) ∧ Own w' w.heap.size 33 n f ∧ Below w.heap.size w w' := by
  have hmk := make22 n (by omega)
  go_enter Try.func9, Try.ntmps9
  go_wp2
  go_loopg [4, 5, 6, 7] n (fun gk i _ _ _ wr => ∃ k : Nat, k ≤ n ∧ i = .int .i64 k ∧ gk = n - k ∧ Own wr w.heap.size 33 n (fun j => if j < k then f j else pz) ∧ Below w.heap.size w wr)
  case atStart => exact ⟨0, Nat.zero_le _, rfl, rfl, by simpa using own_made w n 33, (Below.refl _ _).alloc (Nat.le_refl _) _⟩
  case round =>
    clear hmk
    obtain ⟨k, hk, rfl, hg, hown, hbel⟩ := hrel
    by_cases hlt : k < n
    · obtain ⟨c0, c1, c2⟩ := (h1.below hbel hb) k hlt
      have fz := fun ob m => ((hown.alloc ob).drewN m).frozen
      have e0 := fun ob m => ((((hown.alloc ob).drewN m).has k hlt).1)
      have e1 := fun ob m => ((((hown.alloc ob).drewN m).has k hlt).2.1)
      have e2 := fun ob m => ((((hown.alloc ob).drewN m).has k hlt).2.2)
      simp only [Nat.zero_add] at e0 e1 e2
      have hlt' : (k : Int) < (n : Int) := by omega
      go_wp2_with (go_at_call 17; refine (fields_any _ _ _ _).mono ?_; rintro e w' ⟨rfl, m, rfl⟩)
      clear fz e0 e1 e2 c0 c1 c2
      go_roundg (n - (k + 1))
      case measure => omega
      case rel =>
        exact ⟨k + 1, by omega, by go_num, rfl, ((hown.alloc _).drewN m).fill, below_set3 (below_drewN' (hbel.alloc hbel.size _) m) (Nat.le_refl _) _ _ _ _ _ _⟩
    · go_wp2
      go_ret
      exact ⟨rfl, hown.congr (fun j hj => by simp; omega), hbel⟩
end Go.Proofs.Qxb6627207a
