import Derived.Test.Qxb6625486aProg
import Derived.Test.Qxb6625486aBase
import Derived.Deep.QuietTactic
import Derived.BigQuiet
import Derived.BigRegion
import Derived.Deep.LoopGhost
import Derived.Deep.RegionWith
import Derived.Lib.SliceRun
namespace Go.Proofs.Qxb6625486a
open Go.RowKit

theorem Try.info35 : (Try.prog.info? 35).map (fun i => (i.zero, i.size, i.bytes)) = some (some (.agg #[.int .u32 0, .int .u64 0]), 2, 16) := by kernel_rfl
theorem Try.info37 : (Try.prog.info? 37).map (fun i => (i.zero, i.size, i.bytes)) = some (some (.agg #[.int .u32 0, .int .u64 0]), 2, 16) := by kernel_rfl

theorem make22 (n : Nat) (hn : n ≤ 1048576) (w : World) : (Instr.makeSlice 22 (.int .i64 (n : Int)) (.int .i64 (n : Int))).run Try.prog w = .ok (.slice (some ⟨w.heap.size, 0, none⟩) n n) (w.alloc (.cells (madeCells #[.int .u32 0, .int .u64 0] (n * 2)) 37)) := by
  obtain ⟨i0, hi, hz0, hz1, hz2⟩ := info_parts Try.info37
  have hr := run_make (P := Try.prog) w 22 37 i0 _ Try.underlying22 hi hz0 .i64 .i64 n n (by omega) (by omega) (by rw [hz2]; omega) (by omega)
  rw [hr, hz1]
  simp [Value.cells]
theorem make24 (n : Nat) (hn : n ≤ 1048576) (w : World) : (Instr.makeSlice 24 (.int .i64 (n : Int)) (.int .i64 (n : Int))).run Try.prog w = .ok (.slice (some ⟨w.heap.size, 0, none⟩) n n) (w.alloc (.cells (madeCells #[.int .u32 0, .int .u64 0] (n * 2)) 35)) := by
  obtain ⟨i0, hi, hz0, hz1, hz2⟩ := info_parts Try.info35
  have hr := run_make (P := Try.prog) w 24 35 i0 _ Try.underlying24 hi hz0 .i64 .i64 n n (by omega) (by omega) (by rw [hz2]; omega) (by omega)
  rw [hr, hz1]
  simp [Value.cells]

theorem make24z (w : World) : (Instr.makeSlice 24 (.int .i64 0) (.int .i64 0)).run Try.prog w = .ok (.slice (some ⟨w.heap.size, 0, none⟩) 0 0) (w.alloc (.cells #[] 35)) := by
  have h := make24 0 (by omega) w
  rw [show madeCells #[.int .u32 0, .int .u64 0] (0 * 2) = #[] from by simp [madeCells]] at h
  exact h

/-- xs == nil -/
theorem eqNil22 (a : Option Addr) (n c : Nat) (w : World) : (binOp .eql 22 (.slice a n c) (.slice none 0 0)).run Try.prog w = .ok (.bool a.isNone) w := Lib.run_eql_slice_nil w 22 37 a n c 0 0 Try.underlying22
theorem eqNil24 (a : Option Addr) (n c : Nat) (w : World) : (binOp .eql 24 (.slice a n c) (.slice none 0 0)).run Try.prog w = .ok (.bool a.isNone) w := Lib.run_eql_slice_nil w 24 35 a n c 0 0 Try.underlying24

set_option maxHeartbeats 400000 in
theorem to_nil (n c : Nat) (w : World) :
    Calls Try.prog 6 #[.slice none n c] w fun e w' => e = .returned (.slice none 0 0) ∧ w' = w := by
  have hq := eqNil22
  go_enter Try.func6, Try.ntmps6
  go_wp2
  go_ret
  exact ⟨rfl, rfl⟩

set_option maxHeartbeats 400000 in
theorem to_empty (ad : Addr) (c : Nat) (w : World) :
    Calls Try.prog 6 #[.slice (some ad) 0 c] w fun e w' => e = .returned (.slice (some ⟨w.heap.size, 0, none⟩) 0 0) ∧ Below w.heap.size w w' ∧ w.heap.size < w'.heap.size := by
  have hq := eqNil22
  have hmk := make24z
  go_enter Try.func6, Try.ntmps6
  go_wp2
  refine wp_loop_rounds 1 ?_
  rw [rounds_succ]
  go_wp2
  go_ret
  exact ⟨rfl, (Below.refl _ _).alloc (Nat.le_refl _) _, by simp⟩

set_option maxHeartbeats 400000 in
theorem to_pos (b o c n : Nat) (f : Nat → En) (w : World) (hn : n ≤ 65536) (hb : b < w.heap.size) (h1 : Has w b o n f) :
    Calls Try.prog 6 #[.slice (some ⟨b, o, none⟩) n c] w fun e w' => e = .returned (.slice (some ⟨w.heap.size, 0, none⟩) n n) ∧ Own w' w.heap.size 35 n f ∧ Below w.heap.size w w' := by
  have hq := eqNil22
  have hmk := make24 n (by omega)
  go_enter Try.func6, Try.ntmps6
  go_wp2
  clear hq
  go_loopg [4] n (fun gk i wr => ∃ k : Nat, k ≤ n ∧ i = .int .i64 k ∧ gk = n - k ∧ Own wr w.heap.size 35 n (fun j => if j < k then f j else ez) ∧ Below w.heap.size w wr)
  case atStart => exact ⟨0, Nat.zero_le _, rfl, rfl, by simpa using own_made w n 35, (Below.refl _ _).alloc (Nat.le_refl _) _⟩
  case round =>
    clear hmk
    obtain ⟨k, hk, rfl, hg, hown, hbel⟩ := hrel
    by_cases hlt : k < n
    · obtain ⟨c0, c1⟩ := (h1.below hbel hb) k hlt
      obtain ⟨d0, d1⟩ := hown.has k hlt
      have fz := hown.frozen
      simp only [Nat.zero_add] at d0 d1
      have hlt' : (k : Int) < (n : Int) := by omega
      go_wp2
      go_region
      go_wp2
      clear fz d0 d1 c0 c1
      go_roundg (n - (k + 1))
      case measure => omega
      case rel => exact ⟨k + 1, by omega, by go_num, rfl, hown.fill.drew, (below_set2 hbel (Nat.le_refl _) _ _ _ _).drew⟩
    · go_wp2
      go_ret
      exact ⟨rfl, hown.congr (fun j hj => by simp; omega), hbel⟩

/-! ### sameAs -/
set_option maxHeartbeats 400000 in
theorem same_zero (a a' : Option Addr) (c c' : Nat) (w : World) :
    Calls Try.prog 8 #[.slice a 0 c, .slice a' 0 c'] w fun e w' => e = .returned (.bool true) ∧ w' = w := by
  go_enter Try.func8, Try.ntmps8
  go_wp2
  refine wp_loop_rounds 1 ?_
  rw [rounds_succ]
  go_wp2
  go_ret
  exact ⟨rfl, rfl⟩

set_option maxHeartbeats 400000 in
theorem same_pos (b o c b' o' c' n : Nat) (f : Nat → En) (w : World) (hn : n ≤ 65536) (h1 : Has w b o n f) (h2 : Has w b' o' n f) :
    Calls Try.prog 8 #[.slice (some ⟨b, o, none⟩) n c, .slice (some ⟨b', o', none⟩) n c'] w fun e w' => e = .returned (.bool true) ∧ ∃ m, w' = w.drewN m := by
  go_enter Try.func8, Try.ntmps8
  go_wp2
  go_loopg [5] n (fun gk i wr => ∃ k m : Nat, k ≤ n ∧ i = .int .i64 k ∧ gk = n - k ∧ wr = w.drewN m)
  case atStart => exact ⟨0, 0, Nat.zero_le _, rfl, rfl, rfl⟩
  case round =>
    obtain ⟨k, m, hk, rfl, hg, rfl⟩ := hrel
    by_cases hlt : k < n
    · obtain ⟨c0, c1⟩ := h1 k hlt
      obtain ⟨d0, d1⟩ := h2 k hlt
      clear h1 h2
      have hlt' : (k : Int) < (n : Int) := by omega
      go_wp2
      go_quiet (fail)
      go_wp2
      go_quiet (fail)
      go_wp2
      go_roundg (n - (k + 1))
      case measure => omega
      case rel => exact ⟨k + 1, _, by omega, by go_num, rfl, rfl⟩
    · go_wp2
      go_ret
      exact ⟨rfl, _, rfl⟩

theorem same_true (a a' : Option Addr) (c c' n : Nat) (f : Nat → En) (w : World) (hn : n ≤ 65536) (h1 : HasO w a n f) (h2 : HasO w a' n f) :
    Calls Try.prog 8 #[.slice a n c, .slice a' n c'] w fun e w' => e = .returned (.bool true) ∧ ∃ m, w' = w.drewN m := by
  by_cases h0 : n = 0
  · subst h0
    exact (same_zero a a' c c' w).mono fun e w' ⟨h, h'⟩ => ⟨h, 0, h'⟩
  · obtain ⟨b, o, rfl, k1⟩ := h1 (by omega)
    obtain ⟨b', o', rfl, k2⟩ := h2 (by omega)
    exact same_pos b o c b' o' c' n f w hn k1 k2

/-! ### flip -/
set_option maxHeartbeats 400000 in
theorem flip_any (g c n : Nat) (f : Nat → En) (w : World) (hn : n ≤ 65536) (h1 : Own w g 35 n f) :
    Calls Try.prog 9 #[.slice (some ⟨g, 0, none⟩) n c] w fun e w' => e = .returned (.tuple #[]) ∧ (∃ f', Own w' g 35 n f') ∧ Kept1 g w w' := by
  go_enter Try.func9, Try.ntmps9
  go_wp2
  go_loopg [2] n (fun gk i wr => ∃ k : Nat, k ≤ n ∧ i = .int .i64 k ∧ gk = n - k ∧ (∃ f', Own wr g 35 n f') ∧ Kept1 g w wr)
  case atStart => exact ⟨0, Nat.zero_le _, rfl, rfl, ⟨f, h1⟩, Kept1.refl _ _⟩
  case round =>
    clear h1
    obtain ⟨k, hk, rfl, hg, ⟨f', hown⟩, hkept⟩ := hrel
    by_cases hlt : k < n
    · obtain ⟨d0, d1⟩ := hown.has k hlt
      have fz := hown.frozen
      simp only [Nat.zero_add] at d0 d1
      have hlt' : (k : Int) < (n : Int) := by omega
      go_wp2
      clear fz d0 d1
      go_roundg (n - (k + 1))
      case measure => omega
      case rel => exact ⟨k + 1, by omega, by go_num, rfl, ⟨_, (hown.set0 k _).set1 k _⟩, (hkept.set _ _).set _ _⟩
    · go_wp2
      go_end0
      exact ⟨rfl, ⟨f', hown⟩, hkept⟩
end Go.Proofs.Qxb6625486a
