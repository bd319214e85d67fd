import Derived.Test.Qxb6625486aClone
import Derived.Laws.StructEq
namespace Go.Proofs.Qxb6625486a
open Go.RowKit

/-- a slice of the call's own, its block from B on and below T; nothing is asked of an empty one -/
def Mine (B T : Nat) (w : World) (t : TypeId) (a : Option Addr) (n : Nat) (f : Nat → En) : Prop := 0 < n → ∃ g, a = some ⟨g, 0, none⟩ ∧ B ≤ g ∧ g < T ∧ Own w g t n f
/-- a slice that can be read, its block below T -/
def Rd (T : Nat) (w : World) (a : Option Addr) (n : Nat) (f : Nat → En) : Prop := 0 < n → ∃ b o, a = some ⟨b, o, none⟩ ∧ b < T ∧ Has w b o n f

theorem Mine.rd {B T : Nat} {w : World} {t : TypeId} {a : Option Addr} {n : Nat} {f : Nat → En} (h : Mine B T w t a n f) : Rd T w a n f := fun h0 => by
  obtain ⟨g, e, _, hT, ho⟩ := h h0
  exact ⟨g, 0, e, hT, ho.has⟩
theorem Mine.below {B T T' : Nat} {w w' : World} {t : TypeId} {a : Option Addr} {n : Nat} {f : Nat → En} (h : Mine B T w t a n f) (hb : Below T' w w') (hT : T ≤ T') : Mine B T w' t a n f := fun h0 => by
  obtain ⟨g, e, hB, hT1, ho⟩ := h h0
  exact ⟨g, e, hB, hT1, ho.below hb (Nat.lt_of_lt_of_le hT1 hT)⟩
theorem Mine.drewN {B T : Nat} {w : World} {t : TypeId} {a : Option Addr} {n : Nat} {f : Nat → En} (h : Mine B T w t a n f) (m : Nat) : Mine B T (w.drewN m) t a n f := h
theorem Rd.below {T T' : Nat} {w w' : World} {a : Option Addr} {n : Nat} {f : Nat → En} (h : Rd T w a n f) (hb : Below T' w w') (hT : T ≤ T') : Rd T w' a n f := fun h0 => by
  obtain ⟨b, o, e, hT1, ho⟩ := h h0
  exact ⟨b, o, e, hT1, ho.below hb (Nat.lt_of_lt_of_le hT1 hT)⟩
theorem Rd.drewN {T : Nat} {w : World} {a : Option Addr} {n : Nat} {f : Nat → En} (h : Rd T w a n f) (m : Nat) : Rd T (w.drewN m) a n f := h
theorem Rd.more {T T' : Nat} {w : World} {a : Option Addr} {n : Nat} {f : Nat → En} (h : Rd T w a n f) (hT : T ≤ T') : Rd T' w a n f := fun h0 => by
  obtain ⟨b, o, e, hT1, ho⟩ := h h0
  exact ⟨b, o, e, Nat.lt_of_lt_of_le hT1 hT, ho⟩
theorem Rd.hasO {T : Nat} {w : World} {a : Option Addr} {n : Nat} {f : Nat → En} (h : Rd T w a n f) : HasO w a n f := fun h0 => by
  obtain ⟨b, o, e, _, ho⟩ := h h0
  exact ⟨b, o, e, ho⟩

theorem to_gen (a : Option Addr) (n c : Nat) (f : Nat → En) (w : World) (hn : n ≤ 65536) (ha : a = none → n = 0) (h1 : Rd w.heap.size w a n f) :
    Calls Try.prog 6 #[.slice a n c] w fun e w' => ∃ a', e = .returned (.slice a' n n) ∧ Mine w.heap.size w'.heap.size w' 35 a' n f ∧ Below w.heap.size w w' := by
  by_cases h0 : n = 0
  · subst h0
    cases a with
    | none => exact (to_nil 0 c w).mono fun e w' ⟨he, hw⟩ => ⟨none, he, fun h => absurd h (Nat.lt_irrefl _), by rw [hw]; exact Below.refl _ _⟩
    | some ad => exact (to_empty ad c w).mono fun e w' ⟨he, hb, _⟩ => ⟨_, he, fun h => absurd h (Nat.lt_irrefl _), hb⟩
  · obtain ⟨b, o, rfl, hb, hh⟩ := h1 (Nat.pos_of_ne_zero h0)
    exact (to_pos b o c n f w hn hb hh).mono fun e w' ⟨he, ho, hb⟩ => ⟨_, he, fun _ => ⟨_, rfl, Nat.le_refl _, ho.lt, ho⟩, hb⟩

theorem zz_gen (a : Option Addr) (n c B T : Nat) (f : Nat → En) (w : World) (hn : n ≤ 65536) (h1 : Mine B T w 35 a n f) :
    Calls Try.prog 7 #[.slice a n c] w fun e w' => ∃ a' cap, e = .returned (.slice a' n cap) ∧ a'.isNone = ((n : Int) == 0) ∧ Mine w.heap.size w'.heap.size w' 35 a' n f ∧ Below w.heap.size w w' := by
  by_cases h0 : n = 0
  · subst h0
    exact (zz_zero a c w).mono fun e w' ⟨he, hw⟩ => ⟨none, 0, he, rfl, fun h => absurd h (Nat.lt_irrefl _), by rw [hw]; exact Below.refl _ _⟩
  · obtain ⟨g, rfl, _, _, ho⟩ := h1 (Nat.pos_of_ne_zero h0)
    refine (zz_pos g c n f w (Nat.pos_of_ne_zero h0) hn ho).mono fun e w' ⟨r, cap, he, hr, ho, hb⟩ => ⟨_, cap, he, ?_, fun _ => ⟨_, rfl, hr, ho.lt, ho⟩, hb⟩
    simp; omega

set_option maxHeartbeats 400000 in
theorem flip_zero (a : Option Addr) (c : Nat) (w : World) :
    Calls Try.prog 9 #[.slice a 0 c] w fun e w' => e = .returned (.tuple #[]) ∧ w' = w := by
  go_enter Try.func9, Try.ntmps9
  go_wp2
  refine wp_loop_rounds 1 ?_
  rw [rounds_succ]
  go_wp2
  go_end0
  exact ⟨rfl, rfl⟩

theorem flip_gen (a : Option Addr) (n c B T : Nat) (f : Nat → En) (w : World) (hn : n ≤ 65536) (h1 : Mine B T w 35 a n f) :
    Calls Try.prog 9 #[.slice a n c] w fun e w' => e = .returned (.tuple #[]) ∧ Below B w w' := by
  by_cases h0 : n = 0
  · subst h0
    exact (flip_zero a c w).mono fun e w' ⟨he, hw⟩ => ⟨he, by rw [hw]; exact Below.refl _ _⟩
  · obtain ⟨g, rfl, hB, _, ho⟩ := h1 (Nat.pos_of_ne_zero h0)
    exact (flip_any g c n f w hn ho).mono fun e w' ⟨he, _, kp⟩ => ⟨he, kp.below (Below.refl _ _) hB⟩

theorem same_gen (a a' : Option Addr) (c c' n T T' : Nat) (f : Nat → En) (w : World) (hn : n ≤ 65536) (h1 : Rd T w a n f) (h2 : Rd T' w a' n f) :
    Calls Try.prog 8 #[.slice a n c, .slice a' n c'] w fun e w' => e = .returned (.bool true) ∧ ∃ m, w' = w.drewN m := same_true a a' c c' n f w hn h1.hasO h2.hasO

/-! ### joinEntries -/
def join (na : Nat) (f g : Nat → En) (j : Nat) : En := if j < na then f j else g (j - na)

set_option maxHeartbeats 400000 in
theorem join_zero (a a' : Option Addr) (c c' : Nat) (w : World) :
    Calls Try.prog 11 #[.slice a 0 c, .slice a' 0 c'] w fun e w' => e = .returned (.slice none 0 0) ∧ w' = w := by
  go_enter Try.func11, Try.ntmps11
  go_wp2
  go_ret
  exact ⟨rfl, rfl⟩

theorem join_next {w : World} {g na nb k : Nat} {f g' : Nat → En} (h : Own w g 37 (na + nb) (fun j => if j < na + k then join na f g' j else ez)) :
    Own ((w.setCell ⟨g, (na + k) * 2, none⟩ (.int .u32 (g' k).i)).setCell ⟨g, (na + k) * 2 + 1, none⟩ (.int .u64 (g' k).p)) g 37 (na + nb) (fun j => if j < na + (k + 1) then join na f g' j else ez) := by
  have e : join na f g' (na + k) = g' k := by
    have : ¬ na + k < na := by omega
    simp [join, this]
  rw [← e]
  exact h.fill
theorem join_head {w : World} {g na nb k : Nat} {f g' : Nat → En} (hk : k < na) (h : Own w g 37 (na + nb) (fun j => if j < k then join na f g' j else ez)) :
    Own ((w.setCell ⟨g, k * 2, none⟩ (.int .u32 (f k).i)).setCell ⟨g, k * 2 + 1, none⟩ (.int .u64 (f k).p)) g 37 (na + nb) (fun j => if j < k + 1 then join na f g' j else ez) := by
  have e : join na f g' k = f k := by simp [join, hk]
  rw [← e]
  exact h.fill

set_option maxHeartbeats 400000 in
theorem join_pos (a a' : Option Addr) (na nb c c' : Nat) (f g : Nat → En) (w : World) (h0 : 0 < na + nb) (hn : na + nb ≤ 65536) (h1 : Rd w.heap.size w a na f) (h2 : Rd w.heap.size w a' nb g) :
    Calls Try.prog 11 #[.slice a na c, .slice a' nb c'] w fun e w' => e = .returned (.slice (some ⟨w.heap.size, 0, none⟩) (na + nb) (na + nb)) ∧ Own w' w.heap.size 37 (na + nb) (join na f g) ∧ Below w.heap.size w w' := by
  have hmk := make22 (na + nb) (by omega)
  rw [show ((na + nb : Nat) : Int) = (na : Int) + (nb : Int) from by omega] at hmk
  have hne : ((na : Int) + (nb : Int) == 0) = false := by simp; omega
  go_enter Try.func11, Try.ntmps11
  go_wp2
  go_loopg [7] na (fun gk i wr => ∃ k : Nat, k ≤ na ∧ i = .int .i64 k ∧ gk = na - k ∧ Own wr w.heap.size 37 (na + nb) (fun j => if j < k then join na f g j else ez) ∧ Below w.heap.size w wr)
  case atStart => exact ⟨0, Nat.zero_le _, rfl, rfl, by simpa using own_made w (na + nb) 37, (Below.refl _ _).alloc (Nat.le_refl _) _⟩
  case round =>
    clear hmk
    obtain ⟨k, hk, rfl, hg, hown, hbel⟩ := hrel
    by_cases hlt : k < na
    · obtain ⟨b, o, rfl, hb, hh⟩ := h1 (by omega)
      obtain ⟨c0, c1⟩ := (hh.below hbel hb) k hlt
      obtain ⟨d0, d1⟩ := hown.has k (by omega)
      have fz := hown.frozen
      simp only [Nat.zero_add] at d0 d1
      have hlt' : (k : Int) < (na : Int) := by omega
      have hlt2 : (k : Int) < ((na + nb : Nat) : Int) := by omega
      go_wp2
      clear fz d0 d1 c0 c1
      go_roundg (na - (k + 1))
      case measure => omega
      case rel => exact ⟨k + 1, by omega, by go_num, rfl, join_head hlt hown, below_set2 hbel (Nat.le_refl _) _ _ _ _⟩
    · have e : k = na := by omega
      subst e
      go_wp2
      go_loopg [8] nb (fun gk i wr => ∃ j : Nat, j ≤ nb ∧ i = .int .i64 j ∧ gk = nb - j ∧ Own wr w.heap.size 37 (k + nb) (fun x => if x < k + j then join k f g x else ez) ∧ Below w.heap.size w wr)
      case atStart => exact ⟨0, Nat.zero_le _, rfl, by omega, by simpa using hown, hbel⟩
      case round =>
        clear hown hbel hg
        obtain ⟨j, hj, rfl, hg, hown, hbel⟩ := hrel
        by_cases hlt : j < nb
        · obtain ⟨b, o, rfl, hb, hh⟩ := h2 (by omega)
          obtain ⟨c0, c1⟩ := (hh.below hbel hb) j hlt
          obtain ⟨d0, d1⟩ := hown.has (k + j) (by omega)
          have fz := hown.frozen
          simp only [Nat.zero_add] at d0 d1
          have hlt' : (j : Int) < (nb : Int) := by omega
          have hlt2 : (k : Int) + (j : Int) < ((k + nb : Nat) : Int) := by omega
          go_wp2
          clear fz d0 d1 c0 c1
          go_roundg (nb - (j + 1))
          case measure => omega
          case rel => exact ⟨j + 1, by omega, by go_num, rfl, join_next hown, below_set2 hbel (Nat.le_refl _) _ _ _ _⟩
        · have e : j = nb := by omega
          subst e
          go_wp2
          go_ret
          exact ⟨rfl, hown.congr (fun x hx => by simp; omega), hbel⟩

theorem join_gen (a a' : Option Addr) (na nb c c' : Nat) (f g : Nat → En) (w : World) (hn : na + nb ≤ 65536) (h1 : Rd w.heap.size w a na f) (h2 : Rd w.heap.size w a' nb g) :
    Calls Try.prog 11 #[.slice a na c, .slice a' nb c'] w fun e w' => ∃ ao, e = .returned (.slice ao (na + nb) (na + nb)) ∧ (ao = none → na + nb = 0) ∧ Mine w.heap.size w'.heap.size w' 37 ao (na + nb) (join na f g) ∧ Below w.heap.size w w' := by
  by_cases h0 : na + nb = 0
  · obtain rfl : na = 0 := by omega
    obtain rfl : nb = 0 := by omega
    exact (join_zero a a' c c' w).mono fun e w' ⟨he, hw⟩ => ⟨none, he, fun _ => rfl, fun h => absurd h (Nat.lt_irrefl _), by rw [hw]; exact Below.refl _ _⟩
  · exact (join_pos a a' na nb c c' f g w (Nat.pos_of_ne_zero h0) hn h1 h2).mono fun e w' ⟨he, ho, hb⟩ => ⟨_, he, fun h => by simp at h, fun _ => ⟨_, rfl, Nat.le_refl _, ho.lt, ho⟩, hb⟩

/-- two equal entries compare equal -/
theorem Try.held35 : Try.prog.stoodInHeld 35 = false := by kernel_rfl
theorem Try.guard35 : Try.prog.eqGuardType Try.prog.depth 35 = false := by kernel_rfl
theorem neq35 (x y : Int) (w : World) : (binOp .neq 35 (.agg #[.int .u32 x, .int .u64 y]) (.agg #[.int .u32 x, .int .u64 y])).run Try.prog w = .ok (.bool false) w := by
  have hf : Try.prog.underlying 35 = some (.struct (Try.prog.fieldsOf 35)) := by rw [Program.fieldsOf, Try.underlying35]
  rw [run_neq_struct, run_equalIn_agg _ 9999 35 _ _ hf Try.held35]
  have hl : (Try.prog.fieldsOf 35).toList = [{ name := "ID", type := 31, offset := 0, embedded := false, tag := "", pkgPath := "", byteOffset := 0 }, { name := "Perms", type := 33, offset := 1, embedded := false, tag := "", pkgPath := "", byteOffset := 8 }] := by
    rw [Program.fieldsOf, Try.underlying35]
  rw [hl]
  have h1 : (Op.equalIn 9999 31 (.int .u32 x) (.int .u32 x)).run Try.prog w = .ok (x == x) w := run_equalIn_int w 9998 31 .u32 .u32 x x Try.underlying31
  have h2 : (Op.equalIn 9999 33 (.int .u64 y) (.int .u64 y)).run Try.prog w = .ok (y == y) w := run_equalIn_int w 9998 33 .u64 .u64 y y Try.underlying33
  simp [Op.eqFields, part, isAgg, run_underlying Try.underlying31, run_underlying Try.underlying33, h1, h2]

set_option maxHeartbeats 400000 in
theorem bytes10 (a a' : Option Addr) (n c m c' : Nat) (hn : n ≤ maxLen) (hm : m ≤ maxLen) (w : World) :
    Calls Try.prog 10 #[.slice a n c, .slice a' m c'] w fun e w' => (∃ v, e = .returned (.bool v)) ∧ w' = w := by
  unfold maxLen at hn hm
  go_enter Try.func10, Try.ntmps10
  go_wp2
  all_goals
    go_ret
    exact ⟨⟨_, rfl⟩, rfl⟩
set_option maxHeartbeats 400000 in
theorem bytes10_true (a a' : Option Addr) (n c m c' : Nat) (hn : n + m ≤ 65536) (w : World) :
    Calls Try.prog 10 #[.slice a n c, .slice a' m c'] w fun e w' => e = .returned (.bool true) ∧ w' = w := by
  go_enter Try.func10, Try.ntmps10
  go_wp2
  go_ret
  exact ⟨rfl, rfl⟩
end Go.Proofs.Qxb6625486a
