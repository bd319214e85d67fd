import Derived.Test.Qxb6627207aLaw3
import Derived.Test.Qxb6627207aMerge
namespace Go.Proofs.Qxb6627207a
open Go.RowKit

set_option maxHeartbeats 400000 in
theorem sortedCopy_any (b o c b' o' c' n m : Nat) (f u : Nat → Pd) (w : World) (h1n : 1 ≤ n) (hnm : n ≤ m) (hm : m ≤ 4096) (hb : b < w.heap.size) (hb' : b' < w.heap.size)
    (hF : Has w b o n f) (hU : Has w b' o' m u) (hbd : ∀ j, j < n → 0 ≤ (f j).b ∧ (f j).b ≤ 255) :
    Calls Try.prog 12 #[.slice (some ⟨b, o, none⟩) n c, .slice (some ⟨b', o', none⟩) m c'] w fun e w' => ∃ r h, e = .returned (.slice (some ⟨r, 0, none⟩) n n) ∧ w.heap.size ≤ r ∧ Own w' r 33 n h ∧ Stable Pd.b n f h ∧ Below w.heap.size w w' := by
  have k7 := to_pos b o c n f w (by omega) hb hF
  go_enter Try.func12, Try.ntmps12
  go_wp2_with fail
  refine k7.mono ?_
  rintro e w2 ⟨rfl, o2, b2⟩
  clear k7 hF
  have U2 := hU.below b2 hb'
  have z2 := b2.size
  have k7 := to_pos b' o' c' m u w2 (by omega) (by omega) U2
  clear hU
  go_wp2_with fail
  refine k7.mono ?_
  rintro e w3 ⟨rfl, o3, b3⟩
  clear k7
  have z3 := b3.size
  have l2 := o2.lt
  have o2 := o2.below b3 l2
  have k8 := zz_sort w.heap.size w2.heap.size n m f u w3 h1n hnm hm (by omega) o2 o3 hbd
  go_wp2_with fail
  refine k8.mono ?_
  rintro e w4 ⟨rfl, h, v, o4, o5, hst, hv1, hv2, kp⟩
  clear k8 o2 o3 U2 hv1 hv2
  have z4 := kp.size
  have bb := kp.below (b2.trans (b3.mono (by omega))) (Nat.le_refl _) (by omega) (by omega)
  clear kp b2 b3
  have l4 := o4.lt
  have k9 := from_pos w.heap.size 0 n n h w4 (by omega) l4 o4.has
  go_wp2_with fail
  refine k9.mono ?_
  rintro e w5 ⟨rfl, o6, b5⟩
  clear k9 o5 o4
  have HS : Hid (Stable Pd.b n f h) := hst
  clear hst
  go_wp2_with fail
  go_ret
  exact ⟨w4.heap.size, h, rfl, by omega, o6, HS.out, bb.trans (b5.mono (by omega))⟩

set_option maxHeartbeats 400000 in
theorem bytes11 (a a' : Option Addr) (n c m c' : Nat) (k : Int) (hn : n ≤ maxLen) (hm : m ≤ maxLen) (w : World) :
    Calls Try.prog 11 #[.slice a n c, .slice a' m c', .int .i64 k] w fun e w' => (∃ v, e = .returned (.bool v)) ∧ w' = w := by
  unfold maxLen at hn hm
  go_enter Try.func11, Try.ntmps11
  go_wp2
  all_goals
    go_ret
    exact ⟨⟨_, rfl⟩, rfl⟩

set_option maxHeartbeats 400000 in
theorem bytes11_true (a a' : Option Addr) (n c m c' : Nat) (k : Int) (hn : n ≤ 4096) (hm : m ≤ 4096) (w : World) :
    Calls Try.prog 11 #[.slice a n c, .slice a' m c', .int .i64 k] w fun e w' => e = .returned (.bool true) ∧ w' = w := by
  go_enter Try.func11, Try.ntmps11
  go_wp2
  go_ret
  exact ⟨rfl, rfl⟩

set_option maxHeartbeats 400000 in
theorem law4_early (a a' : Option Addr) (n c m c' : Nat) (k : Int) (hn : n ≤ maxLen) (hm : m ≤ maxLen) (h : 4096 < n ∨ 4096 < m ∨ n = 0 ∨ m < n ∨ k < 0 ∨ (n : Int) < k) (w : World) :
    Calls Try.prog 4 #[.slice a n c, .slice a' m c', .int .i64 k] w fun e w' => e = .returned (.bool true) ∧ w' = w := by
  have hb := bytes11 a a' n c m c' k hn hm w
  unfold maxLen at hn hm
  go_enter Try.func4, Try.ntmps4
  go_wp2_with (go_at_call 11; refine hb.mono ?_; rintro e w' ⟨⟨v, rfl⟩, rfl⟩)
  all_goals
    go_ret
    exact ⟨rfl, rfl⟩

theorem make22z (w : World) : (Instr.makeSlice 22 (.int .i64 0) (.int .i64 0)).run Try.prog w = .ok (.slice (some ⟨w.heap.size, 0, none⟩) 0 0) (w.alloc (.cells #[] 33)) := by
  have h := make22 0 (by omega) w
  rw [show madeCells #[.int .i64 0, .int .i64 0, .int .u8 0] (0 * 3) = #[] from by simp [madeCells]] at h
  exact h

set_option maxHeartbeats 1000000 in
theorem law4_mid (b o c b' o' c' n na m : Nat) (f u : Nat → Pd) (w : World) (h1 : 1 ≤ na) (h2 : na < n) (hnm : n ≤ m) (hm : m ≤ 4096) (hc : n ≤ c) (hb : b < w.heap.size) (hb' : b' < w.heap.size)
    (hF : Has w b o n f) (hU : Has w b' o' m u) (hbd : ∀ j, j < n → 0 ≤ (f j).b ∧ (f j).b ≤ 255) :
    Calls Try.prog 4 #[.slice (some ⟨b, o, none⟩) n c, .slice (some ⟨b', o', none⟩) m c', .int .i64 (na : Int)] w fun e w' => e = .returned (.bool true) ∧ Below w.heap.size w w' := by
  have k11 := bytes11_true (some ⟨b, o, none⟩) (some ⟨b', o', none⟩) n c m c' na (by omega) hm w
  have k12 := sortedCopy_any b o c b' o' c' n m f u w (by omega) hnm hm hb hb' hF hU hbd
  have hmk := make22z
  have g1 : decide ((4096 : Int) < (n : Int)) = false := by simp; omega
  have g2 : decide ((4096 : Int) < (m : Int)) = false := by simp; omega
  have g3 : ((n : Int) == 0) = false := by simp; omega
  have g4 : decide (m < n) = false := by simp; omega
  have g5 : decide ((na : Int) < 0) = false := by simp
  have g6 : decide (n < na) = false := by simp; omega
  go_enter Try.func4, Try.ntmps4
  go_wp2_with (go_at_call 11; refine k11.mono ?_; rintro e w' ⟨rfl, rfl⟩)
  rename World => w
  refine k12.mono ?_
  rintro e w1 ⟨r0, hW, rfl, hr0, o0, st0, b1⟩
  clear k11 k12
  have ST0 : Hid (Stable Pd.b n f hW) := st0
  clear st0
  have z1 := b1.size
  have l0 := o0.lt
  have b1' := b1.alloc (Nat.le_trans (Nat.le_refl _) z1) (.cells #[] 33)
  have k12 := sortedCopy_any b o c b' o' c' na m f u (w1.alloc (.cells #[] 33)) h1 (by omega) hm (by simp; omega) (by simp; omega) ((hF.sub (by omega)).below b1' hb) (hU.below b1' hb') (fun j hj => hbd j (by omega))
  have q1 : (na : Int) ≤ (c : Int) := by omega
  have q2 : (na : Int) ≤ (n : Int) := by omega
  have q3 : (n : Int) ≤ (c : Int) := by omega
  go_wp2_with fail
  refine k12.mono ?_
  rintro e w2 ⟨gl, x, rfl, hgl, ol, sl, b2⟩
  clear k12
  have SL : Hid (Stable Pd.b na f x) := sl
  clear sl
  have o0 := (o0.alloc _).below b2 (by simp; omega)
  have b2 := b1'.trans (b2.mono (by simp; omega))
  clear b1 b1'
  have z2 := b2.size
  have l0 := o0.lt
  have ll := ol.lt
  have b2' := b2.alloc z2 (.cells #[] 33)
  have k12 := sortedCopy_any b (o + na * 3) (c - na) b' o' c' (n - na) m (fun j => f (na + j)) u (w2.alloc (.cells #[] 33)) (by omega) (by omega) hm (by simp; omega) (by simp; omega) ((hF.drop na (by omega)).below b2' hb) (hU.below b2' hb') (fun j hj => hbd (na + j) (by omega))
  go_wp2_with fail
  refine k12.mono ?_
  rintro e w3 ⟨gr, y, rfl, hgr, or, sr, b3⟩
  clear k12 hF hU hbd
  have SR : Hid (Stable Pd.b (n - na) (fun j => f (na + j)) y) := sr
  clear sr
  have o0 := (o0.alloc _).below b3 (by simp; omega)
  have ol := (ol.alloc _).below b3 (by simp; omega)
  have b3 := b2'.trans (b3.mono (by simp; omega))
  clear b2 b2'
  have z3 := b3.size
  have l0 := o0.lt
  have ll := ol.lt
  have lr := or.lt
  obtain ⟨R, kR, hR⟩ := merge_keeps SL.out SR.out
  rw [show na + (n - na) = n from by omega] at hR
  have k13 := merge_any gl na gr (n - na) na (n - na) x y R w3 (by omega) ll lr ol.has or.has kR
  rw [show na + (n - na) = n from by omega] at k13
  have HR : Hid (∀ h, R na (n - na) h → Stable Pd.b n f h) := hR
  clear kR hR ol or
  go_wp2_with fail
  refine k13.mono ?_
  rintro e w4 ⟨rfl, ⟨h, om, rm⟩, b4⟩
  clear k13
  have o0 := o0.below b4 l0
  have bb := b3.trans (b4.mono z3)
  clear b3 b4
  have k10 := same_true (some ⟨r0, 0, none⟩) (some ⟨w3.heap.size, 0, none⟩) n n n hW h w4 (by omega) (fun _ => ⟨_, _, rfl, o0.has⟩) (fun _ => ⟨_, _, rfl, om.has⟩) (ST0.out.unique (HR.out h rm))
  have k14 := fun q => nondecr r0 0 n n hW (w4.drewN q) (by omega) (by omega) (o0.has.drewN q) (fun p hp => ST0.out.nondecr hp)
  clear om o0 rm
  go_wp2_with fail
  refine k10.mono ?_
  rintro e w5 ⟨rfl, q, rfl⟩
  clear k10
  go_wp2_with fail
  refine (k14 q).mono ?_
  rintro e w6 ⟨rfl, q', rfl⟩
  clear k14
  go_wp2_with fail
  go_ret
  exact ⟨rfl, below_drewN' bb _⟩

set_option maxHeartbeats 1000000 in
theorem law4_zero (b o c b' o' c' n m : Nat) (f u : Nat → Pd) (w : World) (h2 : 1 ≤ n) (hnm : n ≤ m) (hm : m ≤ 4096) (hc : n ≤ c) (hb : b < w.heap.size) (hb' : b' < w.heap.size)
    (hF : Has w b o n f) (hU : Has w b' o' m u) (hbd : ∀ j, j < n → 0 ≤ (f j).b ∧ (f j).b ≤ 255) :
    Calls Try.prog 4 #[.slice (some ⟨b, o, none⟩) n c, .slice (some ⟨b', o', none⟩) m c', .int .i64 0] w fun e w' => e = .returned (.bool true) ∧ Below w.heap.size w w' := by
  have k11 := bytes11_true (some ⟨b, o, none⟩) (some ⟨b', o', none⟩) n c m c' 0 (by omega) hm w
  have k12 := sortedCopy_any b o c b' o' c' n m f u w (by omega) hnm hm hb hb' hF hU hbd
  have hmk := make22z
  have g1 : decide ((4096 : Int) < (n : Int)) = false := by simp; omega
  have g2 : decide ((4096 : Int) < (m : Int)) = false := by simp; omega
  have g3 : ((n : Int) == 0) = false := by simp; omega
  have g4 : decide (m < n) = false := by simp; omega
  have g6 : decide ((n : Int) < 0) = false := by simp
  go_enter Try.func4, Try.ntmps4
  go_wp2_with (go_at_call 11; refine k11.mono ?_; rintro e w' ⟨rfl, rfl⟩)
  rename World => w
  refine k12.mono ?_
  rintro e w1 ⟨r0, hW, rfl, hr0, o0, st0, b1⟩
  clear k11 k12
  have ST0 : Hid (Stable Pd.b n f hW) := st0
  clear st0
  have z1 := b1.size
  have l0 := o0.lt
  have b1' := (b1.alloc z1 (.cells #[] 33)).alloc (by simp; omega) (.cells #[] 33)
  have k12 := sortedCopy_any b o c b' o' c' n m f u ((w1.alloc (.cells #[] 33)).alloc (.cells #[] 33)) (by omega) (by omega) hm (by simp; omega) (by simp; omega) (hF.below b1' hb) (hU.below b1' hb') hbd
  have q2 : (0 : Int) < (n : Int) := by omega
  have q3 : (n : Int) ≤ (c : Int) := by omega
  have q4 : (0 : Int) ≤ (c : Int) := by omega
  have q5 : ¬ c = 0 := by omega
  go_wp2_with fail
  refine k12.mono ?_
  rintro e w3 ⟨gr, y, rfl, hgr, or, sr, b3⟩
  clear k12 hF hU hbd
  have SR : Hid (Stable Pd.b n (fun j => f (0 + j)) y) := (by simpa using sr : Stable Pd.b n (fun j => f (0 + j)) y)
  clear sr
  have o0 := ((o0.alloc _).alloc _).below b3 (by simp; omega)
  have b3 := b1'.trans (b3.mono (by simp; omega))
  clear b1 b1'
  have z3 := b3.size
  have l0 := o0.lt
  have lr := or.lt
  simp only [World.size_alloc] at hgr
  obtain ⟨R, kR, hR⟩ := merge_keeps (x := f) (na := 0) Stable.none SR.out
  rw [Nat.zero_add] at hR
  have k13 := merge_any w1.heap.size 0 gr n 0 n f y R w3 (by omega) (by omega) lr (fun j hj => by omega) or.has kR
  rw [Nat.zero_add] at k13
  have HR : Hid (∀ h, R 0 n h → Stable Pd.b n f h) := hR
  clear kR hR or
  go_wp2_with fail
  refine k13.mono ?_
  rintro e w4 ⟨rfl, ⟨h, om, rm⟩, b4⟩
  clear k13
  have o0 := o0.below b4 l0
  have bb := b3.trans (b4.mono z3)
  clear b3 b4
  have k10 := same_true (some ⟨r0, 0, none⟩) (some ⟨w3.heap.size, 0, none⟩) n n n hW h w4 (by omega) (fun _ => ⟨_, _, rfl, o0.has⟩) (fun _ => ⟨_, _, rfl, om.has⟩) (ST0.out.unique (HR.out h rm))
  have k14 := fun q => nondecr r0 0 n n hW (w4.drewN q) (by omega) (by omega) (o0.has.drewN q) (fun p hp => ST0.out.nondecr hp)
  clear om o0 rm
  go_wp2_with fail
  refine k10.mono ?_
  rintro e w5 ⟨rfl, q, rfl⟩
  clear k10
  go_wp2_with fail
  refine (k14 q).mono ?_
  rintro e w6 ⟨rfl, q', rfl⟩
  clear k14
  go_wp2_with fail
  go_ret
  exact ⟨rfl, below_drewN' bb _⟩

set_option maxHeartbeats 1000000 in
theorem law4_full (b o c b' o' c' n m : Nat) (f u : Nat → Pd) (w : World) (h2 : 1 ≤ n) (hnm : n ≤ m) (hm : m ≤ 4096) (hc : n ≤ c) (hb : b < w.heap.size) (hb' : b' < w.heap.size)
    (hF : Has w b o n f) (hU : Has w b' o' m u) (hbd : ∀ j, j < n → 0 ≤ (f j).b ∧ (f j).b ≤ 255) :
    Calls Try.prog 4 #[.slice (some ⟨b, o, none⟩) n c, .slice (some ⟨b', o', none⟩) m c', .int .i64 (n : Int)] w fun e w' => e = .returned (.bool true) ∧ Below w.heap.size w w' := by
  have k11 := bytes11_true (some ⟨b, o, none⟩) (some ⟨b', o', none⟩) n c m c' n (by omega) hm w
  have k12 := sortedCopy_any b o c b' o' c' n m f u w (by omega) hnm hm hb hb' hF hU hbd
  have hmk := make22z
  have g1 : decide ((4096 : Int) < (n : Int)) = false := by simp; omega
  have g2 : decide ((4096 : Int) < (m : Int)) = false := by simp; omega
  have g3 : ((n : Int) == 0) = false := by simp; omega
  have g4 : decide (m < n) = false := by simp; omega
  have g5 : decide ((n : Int) < 0) = false := by simp
  go_enter Try.func4, Try.ntmps4
  go_wp2_with (go_at_call 11; refine k11.mono ?_; rintro e w' ⟨rfl, rfl⟩)
  rename World => w
  refine k12.mono ?_
  rintro e w1 ⟨r0, hW, rfl, hr0, o0, st0, b1⟩
  clear k11 k12
  have ST0 : Hid (Stable Pd.b n f hW) := st0
  clear st0
  have z1 := b1.size
  have l0 := o0.lt
  have b1' := b1.alloc z1 (.cells #[] 33)
  have k12 := sortedCopy_any b o c b' o' c' n m f u (w1.alloc (.cells #[] 33)) (by omega) (by omega) hm (by simp; omega) (by simp; omega) (hF.below b1' hb) (hU.below b1' hb') hbd
  have q2 : (0 : Int) < (n : Int) := by omega
  have q3 : (n : Int) ≤ (c : Int) := by omega
  go_wp2_with fail
  refine k12.mono ?_
  rintro e w2 ⟨gl, x, rfl, hgl, ol, sl, b2⟩
  clear k12 hF hU hbd
  have SL : Hid (Stable Pd.b n f x) := sl
  clear sl
  have o0 := (o0.alloc _).below b2 (by simp; omega)
  have b2 := b1'.trans (b2.mono (by simp; omega))
  clear b1 b1'
  have z2 := b2.size
  have b3 := b2.alloc z2 (.cells #[] 33)
  have z3 : w.heap.size ≤ (w2.alloc (.cells #[] 33)).heap.size := b3.size
  have o0 := o0.alloc (.cells #[] 33)
  have ol := ol.alloc (.cells #[] 33)
  have l0 := o0.lt
  have ll := ol.lt
  clear b2
  obtain ⟨R, kR, hR⟩ := merge_keeps (y := f) (nb := 0) SL.out Stable.none
  rw [Nat.add_zero] at hR
  have k13 := merge_any gl n w2.heap.size 0 n 0 x f R (w2.alloc (.cells #[] 33)) (by omega) ll (by simp) ol.has (fun j hj => by omega) kR
  have hsz : (w2.alloc (.cells #[] 33)).heap.size = w2.heap.size + 1 := by simp
  rw [Nat.add_zero, hsz] at k13
  rw [hsz] at z3 l0
  clear hsz
  have HR : Hid (∀ h, R n 0 h → Stable Pd.b n f h) := hR
  clear kR hR ol
  go_wp2_with fail
  refine k13.mono ?_
  rintro e w4 ⟨rfl, ⟨h, om, rm⟩, b4⟩
  clear k13
  have o0 := o0.below b4 l0
  have bb := b3.trans (b4.mono z3)
  clear b3 b4
  have k10 := same_true (some ⟨r0, 0, none⟩) (some ⟨w2.heap.size + 1, 0, none⟩) n n n hW h w4 (by omega) (fun _ => ⟨_, _, rfl, o0.has⟩) (fun _ => ⟨_, _, rfl, om.has⟩) (ST0.out.unique (HR.out h rm))
  have k14 := fun q => nondecr r0 0 n n hW (w4.drewN q) (by omega) (by omega) (o0.has.drewN q) (fun p hp => ST0.out.nondecr hp)
  clear om o0 rm
  go_wp2_with fail
  refine k10.mono ?_
  rintro e w5 ⟨rfl, q, rfl⟩
  clear k10
  go_wp2_with fail
  refine (k14 q).mono ?_
  rintro e w6 ⟨rfl, q', rfl⟩
  clear k14
  go_wp2_with fail
  go_ret
  exact ⟨rfl, below_drewN' bb _⟩
end Go.Proofs.Qxb6627207a
