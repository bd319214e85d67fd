import Derived.Test.Qxb6625486aClone
namespace Go.Proofs.Qxb6625486a
open Go.RowKit

set_option maxHeartbeats 400000 in
theorem bytes5 (a : Option Addr) (n c : Nat) (hn : n ≤ maxLen) (w : World) :
    Calls Try.prog 5 #[.slice a n c] w fun e w' => (∃ v, e = .returned (.bool v)) ∧ w' = w := by
  unfold maxLen at hn
  go_enter Try.func5, Try.ntmps5
  go_wp2
  all_goals
    go_ret
    exact ⟨⟨_, rfl⟩, rfl⟩
set_option maxHeartbeats 400000 in
theorem bytes5_true (a : Option Addr) (n c : Nat) (hn : n ≤ 65536) (w : World) :
    Calls Try.prog 5 #[.slice a n c] w fun e w' => e = .returned (.bool true) ∧ w' = w := by
  go_enter Try.func5, Try.ntmps5
  go_wp2
  go_ret
  exact ⟨rfl, rfl⟩

set_option maxHeartbeats 400000 in
theorem law3_early (a : Option Addr) (n c : Nat) (hn : n ≤ maxLen) (h : 65536 < n) (w : World) :
    Calls Try.prog 3 #[.slice a n c] w fun e w' => e = .returned (.bool true) ∧ w' = w := by
  have hb := bytes5 a n c hn w
  unfold maxLen at hn
  go_enter Try.func3, Try.ntmps3
  go_wp2_with (go_at_call 5; refine hb.mono ?_; rintro e w' ⟨⟨v, rfl⟩, rfl⟩)
  all_goals
    go_ret
    exact ⟨rfl, rfl⟩

set_option maxHeartbeats 400000 in
theorem law3_nil (n c : Nat) (hn : n = 0) (w : World) :
    Calls Try.prog 3 #[.slice none n c] w fun e w' => e = .returned (.bool true) ∧ w' = w := by
  subst hn
  have hb := bytes5_true none 0 c (by omega) w
  have hq := eqNil24
  go_enter Try.func3, Try.ntmps3
  go_wp2_with (first | (go_at_call 5; refine hb.mono ?_; rintro e w' ⟨rfl, rfl⟩) | (go_at_call 6; refine (to_nil _ _ _).mono ?_; rintro e w' ⟨rfl, rfl⟩) | (go_at_call 7; refine (zz_zero _ _ _).mono ?_; rintro e w' ⟨rfl, rfl⟩))
  go_ret
  exact ⟨rfl, rfl⟩

set_option maxHeartbeats 400000 in
theorem law3_empty (ad : Addr) (n c : Nat) (hn : n = 0) (w : World) :
    Calls Try.prog 3 #[.slice (some ad) n c] w fun e w' => e = .returned (.bool true) ∧ Below w.heap.size w w' := by
  subst hn
  have hb := bytes5_true (some ad) 0 c (by omega) w
  have hq := eqNil24
  go_enter Try.func3, Try.ntmps3
  go_wp2_with (first | (go_at_call 5; refine hb.mono ?_; rintro e w' ⟨rfl, rfl⟩) | (go_at_call 6; refine (to_empty _ _ _).mono ?_; rintro e w' ⟨rfl, hbl, _⟩) | (go_at_call 7; refine (zz_zero _ _ _).mono ?_; rintro e w' ⟨rfl, rfl⟩))
  go_ret
  exact ⟨rfl, by assumption⟩

set_option maxHeartbeats 1000000 in
theorem law3_main (b o c n : Nat) (f : Nat → En) (w : World) (h0 : 0 < n) (hn : n ≤ 65536) (hb : b < w.heap.size) (hF : Has w b o n f) :
    Calls Try.prog 3 #[.slice (some ⟨b, o, none⟩) n c] w fun e w' => e = .returned (.bool true) ∧ Below w.heap.size w w' := by
  have k5 := bytes5_true (some ⟨b, o, none⟩) n c (by omega) w
  have k6 := to_pos b o c n f w hn hb hF
  have hq := eqNil24
  have g1 : ((n : Int) == 0) = false := by simp; omega
  go_enter Try.func3, Try.ntmps3
  go_wp2_with (go_at_call 5; refine k5.mono ?_; rintro e w' ⟨rfl, rfl⟩)
  rename World => w
  refine k6.mono ?_
  rintro e w1 ⟨rfl, o1, b1⟩
  clear k5 k6
  have z1 := b1.size
  have l1 := o1.lt
  have k7 := zz_pos w.heap.size n n f w1 h0 hn o1
  go_wp2_with fail
  refine k7.mono ?_
  rintro e w2 ⟨r2, cap2, rfl, hr2, o2, b2⟩
  clear k7
  have z2 := b2.size
  have l2 := o2.lt
  have o1 := o1.below b2 l1
  have k7 := zz_pos r2 cap2 n f w2 h0 hn o2
  go_wp2_with fail
  refine k7.mono ?_
  rintro e w3 ⟨r3, cap3, rfl, hr3, o3, b3⟩
  clear k7
  have z3 := b3.size
  have l3 := o3.lt
  have o1 := o1.below b3 (by omega)
  have o2 := o2.below b3 (by omega)
  have bb := (b1.trans (b2.mono z1)).trans (b3.mono (by omega))
  clear b1 b2 b3
  have F3 := hF.below bb hb
  have ka : ∀ q, Calls Try.prog 8 #[.slice (some ⟨r2, 0, none⟩) n cap2, .slice (some ⟨b, o, none⟩) n c] (w3.drewN q) fun e w' => e = .returned (.bool true) ∧ ∃ m, w' = (w3.drewN q).drewN m := fun q =>
    same_true _ _ _ _ n f _ hn (fun _ => ⟨_, _, rfl, o2.has.drewN q⟩) (fun _ => ⟨_, _, rfl, F3.drewN q⟩)
  have kb : ∀ q, Calls Try.prog 8 #[.slice (some ⟨r3, 0, none⟩) n cap3, .slice (some ⟨b, o, none⟩) n c] (w3.drewN q) fun e w' => e = .returned (.bool true) ∧ ∃ m, w' = (w3.drewN q).drewN m := fun q =>
    same_true _ _ _ _ n f _ hn (fun _ => ⟨_, _, rfl, o3.has.drewN q⟩) (fun _ => ⟨_, _, rfl, F3.drewN q⟩)
  have kf : ∀ q, Calls Try.prog 9 #[.slice (some ⟨r3, 0, none⟩) n cap3] (w3.drewN q) fun e w' => e = .returned (.tuple #[]) ∧ (∃ f', Own w' r3 35 n f') ∧ Kept1 r3 (w3.drewN q) w' := fun q =>
    flip_any r3 cap3 n f _ hn (o3.drewN q)
  go_wp2_with fail
  refine (ka 0).mono ?_
  rintro e w4 ⟨rfl, q, rfl⟩
  rw [World.drewN_drewN, Nat.zero_add]
  go_wp2_with fail
  refine (kb q).mono ?_
  rintro e w4 ⟨rfl, q1, rfl⟩
  rw [World.drewN_drewN]
  generalize q + q1 = q
  clear ka kb
  go_wp2_with fail
  refine (kf q).mono ?_
  rintro e w4 ⟨rfl, ⟨f', o3'⟩, kp⟩
  clear kf o3
  have o1 := kp.own (o1.drewN q) (by omega)
  have o2 := kp.own (o2.drewN q) (by omega)
  have bb := kp.below (below_drewN' bb q) (by omega)
  clear kp o3' F3
  have F4 := hF.below bb hb
  have ka : ∀ q, Calls Try.prog 8 #[.slice (some ⟨r2, 0, none⟩) n cap2, .slice (some ⟨b, o, none⟩) n c] (w4.drewN q) fun e w' => e = .returned (.bool true) ∧ ∃ m, w' = (w4.drewN q).drewN m := fun q =>
    same_true _ _ _ _ n f _ hn (fun _ => ⟨_, _, rfl, o2.has.drewN q⟩) (fun _ => ⟨_, _, rfl, F4.drewN q⟩)
  have kb : ∀ q, Calls Try.prog 8 #[.slice (some ⟨w.heap.size, 0, none⟩) n n, .slice (some ⟨b, o, none⟩) n c] (w4.drewN q) fun e w' => e = .returned (.bool true) ∧ ∃ m, w' = (w4.drewN q).drewN m := fun q =>
    same_true _ _ _ _ n f _ hn (fun _ => ⟨_, _, rfl, o1.has.drewN q⟩) (fun _ => ⟨_, _, rfl, F4.drewN q⟩)
  have kf : ∀ q, Calls Try.prog 9 #[.slice (some ⟨r2, 0, none⟩) n cap2] (w4.drewN q) fun e w' => e = .returned (.tuple #[]) ∧ (∃ f', Own w' r2 35 n f') ∧ Kept1 r2 (w4.drewN q) w' := fun q =>
    flip_any r2 cap2 n f _ hn (o2.drewN q)
  go_wp2_with fail
  refine (ka 0).mono ?_
  rintro e w5 ⟨rfl, q, rfl⟩
  rw [World.drewN_drewN, Nat.zero_add]
  go_wp2_with fail
  refine (kb q).mono ?_
  rintro e w5 ⟨rfl, q1, rfl⟩
  rw [World.drewN_drewN]
  generalize q + q1 = q
  clear ka kb
  go_wp2_with fail
  refine (kf q).mono ?_
  rintro e w5 ⟨rfl, ⟨f', o2'⟩, kp⟩
  clear kf o2 o2'
  have o1 := kp.own (o1.drewN q) (by omega)
  have bb := kp.below (below_drewN' bb q) (by omega)
  clear kp F4
  have F5 := hF.below bb hb
  have kb := same_true (some ⟨w.heap.size, 0, none⟩) (some ⟨b, o, none⟩) n c n f w5 hn (fun _ => ⟨_, _, rfl, o1.has⟩) (fun _ => ⟨_, _, rfl, F5⟩)
  go_wp2_with fail
  refine kb.mono ?_
  rintro e w6 ⟨rfl, q', rfl⟩
  go_wp2_with fail
  go_ret
  exact ⟨rfl, below_drewN' bb _⟩
end Go.Proofs.Qxb6625486a
