import Derived.Test.Qxb6625658aLaw3
namespace Go.Proofs.Qxb6625658a
open Go.RowKit

set_option maxHeartbeats 400000 in
theorem bytes8 (s : ByteArray) (hm : s.size ≤ maxLen) (w : World) : Calls Try.prog 8 #[.string s] w fun e w' => (∃ v, e = .returned (.bool v)) ∧ w' = w := by
  unfold maxLen at hm
  go_enter Try.func8, Try.ntmps8
  go_wp2
  all_goals
    go_ret
    exact ⟨⟨_, rfl⟩, rfl⟩
set_option maxHeartbeats 400000 in
theorem bytes8_true (s : ByteArray) (hm : s.size ≤ 65536) (w : World) : Calls Try.prog 8 #[.string s] w fun e w' => e = .returned (.bool true) ∧ w' = w := by
  go_enter Try.func8, Try.ntmps8
  go_wp2
  go_ret
  exact ⟨rfl, rfl⟩

set_option maxHeartbeats 400000 in
theorem law4_early (s : ByteArray) (hm : s.size ≤ maxLen) (h : 65536 < s.size) (w : World) :
    Calls Try.prog 4 #[.string s] w fun e w' => e = .returned (.bool true) ∧ w' = w := by
  have hb := bytes8 s hm w
  unfold maxLen at hm
  go_enter Try.func4, Try.ntmps4
  go_wp2_with (go_at_call 8; refine hb.mono ?_; rintro e w' ⟨⟨v, rfl⟩, rfl⟩)
  all_goals
    go_ret
    exact ⟨rfl, rfl⟩

theorem twice_data (s : ByteArray) : (s ++ s).data.toList = s.data.toList ++ s.data.toList := by simp
theorem twice_size (s : ByteArray) : (s ++ s).size = s.size + s.size := by simp

set_option maxHeartbeats 800000 in
theorem law4_main (s : ByteArray) (hs : s.size ≤ 65536) (w : World) :
    Calls Try.prog 4 #[.string s] w fun e w' => e = .returned (.bool true) ∧ ∃ m, w' = w.drewN m := by
  have k8 := bytes8_true s hs w
  obtain ⟨b, hb⟩ : ∃ b, nameL s.data.toList = b := ⟨_, rfl⟩
  have hD : nameL (s ++ s).data.toList = (b && decide (s.size ≤ 32)) := by rw [twice_data, nameL_twice, hb, bytesLen]
  have kS := fun w => zz_any s _ hb (by unfold maxLen; omega) w
  have kD := fun w => zz_any _ _ hD (by rw [twice_size]; unfold maxLen; omega) w
  have HZ : Hid (s.size = 0 → b = false) := fun h => hb.symm.trans (nameL_zero (by rw [bytesLen]; exact h))
  clear hb hD
  by_cases h0 : s.size = 0
  · have e := HZ.out h0
    subst e
    have q3 : ¬ (0 : Int) < (s.size : Int) := by omega
    have q4 : (s.size : Int) ≤ 65536 := by omega
    simp only [Bool.false_and] at kD
    clear h0 hs
    go_enter Try.func4, Try.ntmps4
    go_wp2_with (go_at_call 8; refine k8.mono ?_; rintro e w' ⟨rfl, rfl⟩)
    refine (kD _).mono ?_
    rintro e w' ⟨rfl, rfl⟩
    go_wp2_with fail
    refine (kS _).mono ?_
    rintro e w' ⟨rfl, rfl⟩
    clear kD kS
    go_wp2_with fail
    go_ret
    exact ⟨rfl, 0, rfl⟩
  · have hp : 0 < s.size := by omega
    have kC := fun w => zz_any _ _ (one_byte s 0 hp) (by rw [ByteArray.size_extract]; unfold maxLen; omega) w
    have kN := fun w => byte_any (s[0].toNat : Int) w
    have q3 : (0 : Int) < (s.size : Int) := by omega
    have q5 : (1 : Int) ≤ (s.size : Int) := by omega
    clear HZ
    cases b
    · simp only [Bool.false_and] at kD
      go_enter Try.func4, Try.ntmps4
      go_wp2_with (go_at_call 8; refine k8.mono ?_; rintro e w' ⟨rfl, rfl⟩)
      refine (kD _).mono ?_
      rintro e w' ⟨rfl, rfl⟩
      go_wp2_with fail
      refine (kS _).mono ?_
      rintro e w' ⟨rfl, rfl⟩
      clear kD kS
      go_wp2_with fail
      go_quiet (first | (go_at_call 6; exact Calls.quiet_of_same (kC _)) | (go_at_call 7; exact Calls.quiet_of_same (kN _)))
      go_wp2_with fail
      go_ret
      exact ⟨rfl, _, rfl⟩
    · by_cases h32 : s.size ≤ 32
      · have q6 : (s.size : Int) ≤ 32 := by omega
        simp only [h32, decide_true, Bool.and_true] at kD
        go_enter Try.func4, Try.ntmps4
        go_wp2_with (go_at_call 8; refine k8.mono ?_; rintro e w' ⟨rfl, rfl⟩)
        refine (kD _).mono ?_
        rintro e w' ⟨rfl, rfl⟩
        go_wp2_with fail
        refine (kS _).mono ?_
        rintro e w' ⟨rfl, rfl⟩
        clear kD kS
        go_wp2_with fail
        go_quiet (first | (go_at_call 6; exact Calls.quiet_of_same (kC _)) | (go_at_call 7; exact Calls.quiet_of_same (kN _)))
        go_wp2_with fail
        go_ret
        exact ⟨rfl, _, rfl⟩
      · have q6 : ¬ (s.size : Int) ≤ 32 := by omega
        simp only [h32, decide_false, Bool.and_false] at kD
        go_enter Try.func4, Try.ntmps4
        go_wp2_with (go_at_call 8; refine k8.mono ?_; rintro e w' ⟨rfl, rfl⟩)
        refine (kD _).mono ?_
        rintro e w' ⟨rfl, rfl⟩
        go_wp2_with fail
        refine (kS _).mono ?_
        rintro e w' ⟨rfl, rfl⟩
        clear kD kS
        go_wp2_with fail
        go_quiet (first | (go_at_call 6; exact Calls.quiet_of_same (kC _)) | (go_at_call 7; exact Calls.quiet_of_same (kN _)))
        go_wp2_with fail
        go_ret
        exact ⟨rfl, _, rfl⟩
end Go.Proofs.Qxb6625658a
