import Derived.Test.Qxb6627207aProg
import Derived.Test.Qxb6627207aBase
import Derived.Deep.QuietTactic
import Derived.BigQuiet
import Derived.Deep.LoopGhost
import Derived.Deep.RegionWith
namespace Go.Proofs.Qxb6627207a
open Go.RowKit

theorem new_any (x y z : Int) (w : World) :
    Calls Try.prog 15 #[.int .i64 x, .int .i64 y, .int .u8 z] w fun e w' => e = .returned (.agg #[.int .i64 x, .int .i64 y, .int .u8 z]) ∧ w' = w.alloc (.cells #[.int .i64 x, .int .i64 y, .int .u8 z] 35) := by
  go_enter Try.func15, Try.ntmps15
  go_wp2
  exact bodyPost_ret (v := .agg #[.int .i64 x, .int .i64 y, .int .u8 z]) (by simp [results, Try.results15, go_sem]) rfl ⟨rfl, rfl⟩

theorem fields_any (x y z : Int) (w : World) :
    Calls Try.prog 17 #[.agg #[.int .i64 x, .int .i64 y, .int .u8 z]] w fun e w' => e = .returned (.tuple #[.int .i64 x, .int .i64 y, .int .u8 z]) ∧ ∃ m, w' = (w.alloc (.cells #[.int .i64 x, .int .i64 y, .int .u8 z] 35)).drewN m := by
  go_enter Try.func17, Try.ntmps17
  go_wp2
  go_quiet (fail)
  go_wp2
  go_ret3
  exact ⟨rfl, _, rfl⟩

theorem Try.info33 : (Try.prog.info? 33).map (fun i => (i.zero, i.size, i.bytes)) = some (some (.agg #[.int .i64 0, .int .i64 0, .int .u8 0]), 3, 24) := by kernel_rfl
theorem Try.info35 : (Try.prog.info? 35).map (fun i => (i.zero, i.size, i.bytes)) = some (some (.agg #[.int .i64 0, .int .i64 0, .int .u8 0]), 3, 24) := by kernel_rfl

theorem make22 (n : Nat) (hn : n ≤ 1048576) (w : World) : (Instr.makeSlice 22 (.int .i64 (n : Int)) (.int .i64 (n : Int))).run Try.prog w = .ok (.slice (some ⟨w.heap.size, 0, none⟩) n n) (w.alloc (.cells (madeCells #[.int .i64 0, .int .i64 0, .int .u8 0] (n * 3)) 33)) := by
  obtain ⟨i0, hi, hz0, hz1, hz2⟩ := info_parts Try.info33
  have hr := run_make (P := Try.prog) w 22 33 i0 _ Try.underlying22 hi hz0 .i64 .i64 n n (by omega) (by omega) (by rw [hz2]; omega) (by omega)
  rw [hr, hz1]
  simp [Value.cells]
theorem make25 (n : Nat) (hn : n ≤ 1048576) (w : World) : (Instr.makeSlice 25 (.int .i64 (n : Int)) (.int .i64 (n : Int))).run Try.prog w = .ok (.slice (some ⟨w.heap.size, 0, none⟩) n n) (w.alloc (.cells (madeCells #[.int .i64 0, .int .i64 0, .int .u8 0] (n * 3)) 35)) := by
  obtain ⟨i0, hi, hz0, hz1, hz2⟩ := info_parts Try.info35
  have hr := run_make (P := Try.prog) w 25 35 i0 _ Try.underlying25 hi hz0 .i64 .i64 n n (by omega) (by omega) (by rw [hz2]; omega) (by omega)
  rw [hr, hz1]
  simp [Value.cells]

set_option maxHeartbeats 400000 in
theorem to_pos (b o c n : Nat) (f : Nat → Pd) (w : World) (hn : n ≤ 4096) (hb : b < w.heap.size) (h1 : Has w b o n f) :
    Calls Try.prog 7 #[.slice (some ⟨b, o, none⟩) n c] w fun e w' => e = .returned (.slice (some ⟨w.heap.size, 0, none⟩) n n) ∧ Own w' w.heap.size 35 n f ∧ Below w.heap.size w w' := by
  have hmk := make25 n (by omega)
  go_enter Try.func7, Try.ntmps7
  go_wp2
  go_loopg [4] n (fun gk i wr => ∃ k : Nat, k ≤ n ∧ i = .int .i64 k ∧ gk = n - k ∧ Own wr w.heap.size 35 n (fun j => if j < k then f j else pz) ∧ Below w.heap.size w wr)
  case atStart => exact ⟨0, Nat.zero_le _, rfl, rfl, by simpa using own_made w n 35, (Below.refl _ _).alloc (Nat.le_refl _) _⟩
  case round =>
    clear hmk
    obtain ⟨k, hk, rfl, hg, hown, hbel⟩ := hrel
    by_cases hlt : k < n
    · obtain ⟨c0, c1, c2⟩ := (h1.below hbel hb) k hlt
      obtain ⟨d0, d1, d2⟩ := hown.has k hlt
      have fz := fun ob => (hown.alloc ob).frozen
      have e0 := fun ob => (((hown.alloc ob).has k hlt).1)
      have e1 := fun ob => (((hown.alloc ob).has k hlt).2.1)
      have e2 := fun ob => (((hown.alloc ob).has k hlt).2.2)
      simp only [Nat.zero_add] at e0 e1 e2
      clear d0 d1 d2
      have hlt' : (k : Int) < (n : Int) := by omega
      go_wp2_with fail
      go_region_with (go_at_call 15; refine (new_any _ _ _ _).mono ?_; rintro e w' ⟨rfl, rfl⟩)
      all_goals
        clear fz e0 e1 e2 c0 c1 c2
        go_wp2
        go_roundg (n - (k + 1))
        case measure => omega
        case rel => exact ⟨k + 1, by omega, by go_num, rfl, ((hown.alloc _).fill).drew, (below_set3 (hbel.alloc hbel.size _) (Nat.le_refl _) _ _ _ _ _ _).drew⟩
    · go_wp2
      go_ret
      exact ⟨rfl, hown.congr (fun j hj => by simp; omega), hbel⟩
end Go.Proofs.Qxb6627207a
