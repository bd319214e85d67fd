import Derived.Test.Qxb6627207aSort
import Derived.Test.Qxb6627207aSame
import Derived.Test.Qxb6627207aFrom
namespace Go.Proofs.Qxb6627207a
open Go.RowKit

theorem zz_sort (g s n m : Nat) (f u : Nat → Pd) (w : World) (h1n : 1 ≤ n) (hnm : n ≤ m) (hm : m ≤ 4096) (hgs : g ≠ s) (hG : Own w g 35 n f) (hS : Own w s 35 m u) (hbd : ∀ j, j < n → 0 ≤ (f j).b ∧ (f j).b ≤ 255) :
    Calls Try.prog 8 #[.slice (some ⟨g, 0, none⟩) n n, .slice (some ⟨s, 0, none⟩) m m] w fun e w' => e = .returned (.tuple #[]) ∧ ∃ h v, Own w' g 35 n h ∧ Own w' s 35 m v ∧ Stable Pd.b n f h ∧ (∀ i, n ≤ i → i < m → v i = u i) ∧
      ((∀ i, i < n → v i = u i) ∨ (∀ i, i < n → v i = h i)) ∧ Kept2 g s w w' := by
  have H := sort_any g s n m f u w h1n hnm hm hgs hG hS hbd
  clear hG hS hbd
  go_enter Try.func8, Try.ntmps8
  go_wp2_with (go_at_call 16; refine H.mono ?_; rintro e w' ⟨rfl, hh⟩)
  go_end0
  exact ⟨rfl, hh⟩

set_option maxHeartbeats 400000 in
theorem bytes5 (a a' : Option Addr) (n c m c' : Nat) (hn : n ≤ maxLen) (hm : m ≤ maxLen) (w : World) :
    Calls Try.prog 5 #[.slice a n c, .slice a' m c'] w fun e w' => (∃ v, e = .returned (.bool v)) ∧ w' = w := by
  unfold maxLen at hn hm
  go_enter Try.func5, Try.ntmps5
  go_wp2
  all_goals
    go_ret
    exact ⟨⟨_, rfl⟩, rfl⟩

set_option maxHeartbeats 400000 in
theorem bytes5_true (a a' : Option Addr) (n c m c' : Nat) (hn : n ≤ 4096) (hm : m ≤ 4096) (w : World) :
    Calls Try.prog 5 #[.slice a n c, .slice a' m c'] w fun e w' => e = .returned (.bool true) ∧ w' = w := by
  go_enter Try.func5, Try.ntmps5
  go_wp2
  go_ret
  exact ⟨rfl, rfl⟩

set_option maxHeartbeats 400000 in
theorem law3_early (a a' : Option Addr) (n c m c' : Nat) (hn : n ≤ maxLen) (hm : m ≤ maxLen) (h : 4096 < n ∨ 4096 < m ∨ n = 0 ∨ m < n) (w : World) :
    Calls Try.prog 3 #[.slice a n c, .slice a' m c'] w fun e w' => e = .returned (.bool true) ∧ w' = w := by
  have hb := bytes5 a a' n c m c' hn hm w
  unfold maxLen at hn hm
  go_enter Try.func3, Try.ntmps3
  go_wp2_with (go_at_call 5; refine hb.mono ?_; rintro e w' ⟨⟨v, rfl⟩, rfl⟩)
  all_goals
    go_ret
    exact ⟨rfl, rfl⟩

theorem quiet_more {f : FuncId} {args : Array Value} {w : World} {q x : Nat} {v : Value} (h : Calls Try.prog f args (w.drewN (q + x)) fun e w' => e = .returned v ∧ ∃ m, w' = (w.drewN (q + x)).drewN m) :
    Calls Try.prog f args (w.drewN (q + x)) fun e w' => e = .returned v ∧ ∃ k, w' = w.drewN (q + k) :=
  h.mono fun e w' ⟨h1, m, h2⟩ => ⟨h1, x + m, by rw [h2, World.drewN_drewN, Nat.add_assoc]⟩

theorem hasO_drop {w : World} {b o n m c : Nat} {f : Nat → Pd} (hnm : n ≤ m) (hc : m ≤ c) (h : Has w b o m f) : HasO w (if c = n then some ⟨b, o, none⟩ else some ⟨b, o + n * 3, none⟩) (m - n) (fun j => f (n + j)) := by
  intro h0
  rw [if_neg (by omega)]
  exact ⟨_, _, rfl, h.drop n hnm⟩

theorem hasO_drop0 {w : World} {b n m c : Nat} {f : Nat → Pd} (hnm : n ≤ m) (hc : m ≤ c) (h : Has w b 0 m f) : HasO w (if c = n then some ⟨b, 0, none⟩ else some ⟨b, n * 3, none⟩) (m - n) (fun j => f (n + j)) := by
  have := hasO_drop hnm hc h
  rwa [Nat.zero_add] at this

set_option maxHeartbeats 1000000 in
theorem law3_main (b o c b' o' c' n m : Nat) (f u : Nat → Pd) (w : World) (h1n : 1 ≤ n) (hnm : n ≤ m) (hm : m ≤ 4096) (hc' : m ≤ c') (hb : b < w.heap.size) (hb' : b' < w.heap.size)
    (hF : Has w b o n f) (hU : Has w b' o' m u) (hbd : ∀ j, j < n → 0 ≤ (f j).b ∧ (f j).b ≤ 255) :
    Calls Try.prog 3 #[.slice (some ⟨b, o, none⟩) n c, .slice (some ⟨b', o', none⟩) m c'] w fun e w' => e = .returned (.bool true) ∧ Below w.heap.size w w' := by
  have k5 := bytes5_true (some ⟨b, o, none⟩) (some ⟨b', o', none⟩) n c m c' (by omega) hm w
  have k6 := stab_pos b o c n f w (by omega) hb hF
  go_enter Try.func3, Try.ntmps3
  have g1 : decide ((4096 : Int) < (n : Int)) = false := by simp; omega
  have g2 : decide ((4096 : Int) < (m : Int)) = false := by simp; omega
  have g3 : ((n : Int) == 0) = false := by simp; omega
  have g4 : decide (m < n) = false := by simp; omega
  go_wp2_with (go_at_call 5; refine k5.mono ?_; rintro e w' ⟨rfl, rfl⟩)
  · rename World => w
    refine k6.mono ?_
    rintro e w1 ⟨rfl, ⟨h0, o1, hst0⟩, b1⟩
    have HS : Hid (Stable Pd.b n f h0) := Stable.of_rank hst0
    have l1 := o1.lt
    clear k5 k6 hst0
    have F1 := hF.below b1 hb
    have U1 := hU.below b1 hb'
    have z1 := b1.size
    have k7 := to_pos b o c n f w1 (by omega) (by omega) F1
    go_wp2_with fail
    refine k7.mono ?_
    rintro e w2 ⟨rfl, o2, b2⟩
    clear k7 F1
    have U2 := U1.below b2 (by omega)
    have z2 := b2.size
    have o1 := o1.below b2 o1.lt
    have k7 := to_pos b' o' c' m u w2 (by omega) (by omega) U2
    clear U1
    go_wp2_with fail
    refine k7.mono ?_
    rintro e w3 ⟨rfl, o3, b3⟩
    clear k7
    have z3 := b3.size
    have l2 := o2.lt
    have o2 := o2.below b3 l2
    have o1 := o1.below b3 o1.lt
    have k8 := zz_sort w1.heap.size w2.heap.size n m f u w3 h1n hnm hm (by omega) o2 o3 hbd
    go_wp2_with fail
    refine k8.mono ?_
    rintro e w4 ⟨rfl, h, v, o4, o5, hst, hv1, hv2, kp⟩
    clear k8 o2 o3 U2
    have z4 := kp.size
    have o1 := kp.own o1 (by omega) (by omega)
    have bb := kp.below (((b1.trans (b2.mono (by omega))).trans (b3.mono (by omega)))) (Nat.le_refl _) (by omega) (by omega)
    clear kp b1 b2 b3
    have l4 := o4.lt
    have l5 := o5.lt
    have k9 := from_pos w1.heap.size 0 n n h w4 (by omega) l4 o4.has
    go_wp2_with fail
    refine k9.mono ?_
    rintro e w5 ⟨rfl, o6, b5⟩
    clear k9
    have z5 := b5.size
    have o5 := o5.below b5 l5
    have o1 := o1.below b5 o1.lt
    have bb := bb.trans (b5.mono (by omega))
    clear b5 o4
    have k9 := from_pos w2.heap.size 0 m m v w5 (by omega) o5.lt o5.has
    go_wp2_with fail
    refine k9.mono ?_
    rintro e w6 ⟨rfl, o7, b6⟩
    clear k9
    have z6 := b6.size
    have o6 := o6.below b6 o6.lt
    have o1 := o1.below b6 o1.lt
    have bb := bb.trans (b6.mono (by omega))
    clear b6 o5
    have k10 := same_true (some ⟨w4.heap.size, 0, none⟩) (some ⟨w.heap.size, 0, none⟩) n n n h h0 w6 (by omega) (fun _ => ⟨_, _, rfl, o6.has⟩) (fun _ => ⟨_, _, rfl, o1.has⟩) (hst.unique HS.out)
    go_wp2_with fail
    refine k10.mono ?_
    rintro e w7 ⟨rfl, q, rfl⟩
    clear k10 o6
    have U7 := hU.below bb hb'
    clear hF hU
    go_wp2_with fail
    have hle1 : (n : Int) ≤ (m : Int) := by omega
    have hle2 : (m : Int) ≤ (c' : Int) := by omega
    have hle3 : (n : Int) ≤ (c' : Int) := by omega
    have k16 : ∀ x, Calls Try.prog 10 #[.slice (if m = n then some ⟨w5.heap.size, 0, none⟩ else some ⟨w5.heap.size, n * 3, none⟩) (m - n) (m - n), .slice (if c' = n then some ⟨b', o', none⟩ else some ⟨b', o' + n * 3, none⟩) (m - n) (c' - n)] (w6.drewN (q + x)) fun e w'' => e = .returned (.bool true) ∧ ∃ k, w'' = w6.drewN (q + k) := fun x =>
      quiet_more (same_true _ _ (m - n) (c' - n) (m - n) (fun j => v (n + j)) (fun j => u (n + j)) (w6.drewN (q + x)) (by omega) (hasO_drop0 hnm (Nat.le_refl _) (o7.has.drewN _)) (hasO_drop hnm hc' (U7.drewN _)) (fun j hj => hv1 (n + j) (by omega) (by omega)))
    have V7 : Has w6 w5.heap.size 0 m v := o7.has
    have W7 : Has w6 w.heap.size 0 n h0 := o1.has
    have hvh : Hid ((∀ j, j < n → v j = u j) ∨ ∀ j, j < n → v j = h0 j) := by
      rcases hv2 with h | h
      · exact Or.inl h
      · exact Or.inr fun j hj => (h j hj).trans (hst.unique HS.out j hj)
    clear o1 o7 hst HS hv1 hv2 hbd
    by_cases hvu : ∀ j, j < n → v j = u j
    · have k18 : ∀ p x y, Calls Try.prog 10 #[.slice (some ⟨w5.heap.size, 0, none⟩) n x, .slice (some ⟨b', o', none⟩) n y] (w6.drewN p) fun e w'' => e = .returned (.bool true) ∧ ∃ k, w'' = (w6.drewN p).drewN k := fun p x y =>
        same_true _ _ x y n v u (w6.drewN p) (by omega) (fun _ => ⟨_, _, rfl, (V7.sub hnm).drewN _⟩) (fun _ => ⟨_, _, rfl, (U7.sub hnm).drewN _⟩) hvu
      clear hvu hvh V7 W7 U7
      go_quiet ((go_at_call 10; exact k16 _))
      clear k16
      go_wp2_with fail
      all_goals
        go_quiet ((go_at_call 10; exact quiet_more (k18 _ _ _)))
        go_wp2_with fail
        go_ret
        exact ⟨rfl, below_drewN' (below_drewN' bb _) _⟩
    · have hvh0 : ∀ j, j < n → v j = h0 j := by
        rcases hvh.out with h | h
        · exact absurd h hvu
        · exact h
      have k18 : ∀ p x y, Calls Try.prog 10 #[.slice (some ⟨w5.heap.size, 0, none⟩) n x, .slice (some ⟨b', o', none⟩) n y] (w6.drewN p) fun e w'' => e = .returned (.bool false) ∧ ∃ k, w'' = (w6.drewN p).drewN k := fun p x y =>
        same_false _ _ x y n v u (w6.drewN p) (by omega) (fun _ => ⟨_, _, rfl, (V7.sub hnm).drewN _⟩) (fun _ => ⟨_, _, rfl, (U7.sub hnm).drewN _⟩) hvu
      have k19 : ∀ p x y, Calls Try.prog 10 #[.slice (some ⟨w5.heap.size, 0, none⟩) n x, .slice (some ⟨w.heap.size, 0, none⟩) n y] (w6.drewN p) fun e w'' => e = .returned (.bool true) ∧ ∃ k, w'' = (w6.drewN p).drewN k := fun p x y =>
        same_true _ _ x y n v h0 (w6.drewN p) (by omega) (fun _ => ⟨_, _, rfl, (V7.sub hnm).drewN _⟩) (fun _ => ⟨_, _, rfl, W7.drewN _⟩) hvh0
      clear hvu hvh hvh0 V7 W7 U7
      go_quiet ((go_at_call 10; exact k16 _))
      clear k16
      go_wp2_with fail
      all_goals
        go_quiet (first | (go_at_call_of 10 b'; exact quiet_more (k18 _ _ _)) | (go_at_call_of 10 w; exact quiet_more (k19 _ _ _)))
        go_wp2_with fail
        go_ret
        exact ⟨rfl, below_drewN' (below_drewN' bb _) _⟩
end Go.Proofs.Qxb6627207a
