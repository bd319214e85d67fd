import Derived.Test.Qxb6625658aWalks
namespace Go.Proofs.Qxb6625658a
open Go.RowKit

theorem bytesLen (s : ByteArray) : s.data.toList.length = s.size := by simp

set_option maxHeartbeats 400000 in
theorem bytes5 (s : ByteArray) (i : Int) (hm : s.size ≤ maxLen) (w : World) : Calls Try.prog 5 #[.string s, .int .i64 i] w fun e w' => (∃ v, e = .returned (.bool v)) ∧ w' = w := by
  unfold maxLen at hm
  go_enter Try.func5, Try.ntmps5
  go_wp2
  all_goals
    go_ret
    exact ⟨⟨_, rfl⟩, rfl⟩
set_option maxHeartbeats 400000 in
theorem bytes5_true (s : ByteArray) (i : Int) (hm : s.size ≤ 65536) (w : World) : Calls Try.prog 5 #[.string s, .int .i64 i] w fun e w' => e = .returned (.bool true) ∧ w' = w := by
  go_enter Try.func5, Try.ntmps5
  go_wp2
  go_ret
  exact ⟨rfl, rfl⟩

set_option maxHeartbeats 400000 in
theorem law3_early (s : ByteArray) (i : Int) (hm : s.size ≤ maxLen) (h : 65536 < s.size ∨ i < 0 ∨ (s.size : Int) < i) (w : World) :
    Calls Try.prog 3 #[.string s, .int .i64 i] w fun e w' => e = .returned (.bool true) ∧ w' = w := by
  have hb := bytes5 s i hm w
  unfold maxLen at hm
  go_enter Try.func3, Try.ntmps3
  go_wp2_with (go_at_call 5; refine hb.mono ?_; rintro e w' ⟨⟨v, rfl⟩, rfl⟩)
  all_goals
    go_ret
    exact ⟨rfl, rfl⟩

theorem extract_tail (s : ByteArray) (n : Nat) : (s.extract n s.size).data.toList = s.data.toList.drop n := by
  rw [Lib.extract_data, List.take_of_length_le]
  rw [List.length_drop, bytesLen]
  exact Nat.le_refl _
theorem extract_head (s : ByteArray) (n : Nat) : (s.extract 0 n).data.toList = s.data.toList.take n := by
  rw [Lib.extract_data, List.drop_zero, Nat.sub_zero]

/-- the single byte behind the cut -/
theorem one_byte (s : ByteArray) (n : Nat) (hn : n < s.size) : nameL (s.extract n (n + 1)).data.toList = okB (s[n].toNat : Int) := by
  rw [Lib.extract_data, show n + 1 - n = 1 from by omega]
  have e : (s.data.toList.drop n).take 1 = [s[n]] := by
    rw [List.drop_eq_getElem_cons (by simpa using hn)]
    rfl
  rw [e, nameL_one]

set_option maxHeartbeats 800000 in
theorem law3_mid (s : ByteArray) (n : Nat) (h0 : 0 < n) (hn : n < s.size) (hs : s.size ≤ 65536) (w : World) :
    Calls Try.prog 3 #[.string s, .int .i64 (n : Int)] w fun e w' => e = .returned (.bool true) ∧ ∃ m, w' = w.drewN m := by
  have hlen := bytesLen s
  have k5 := bytes5_true s n hs w
  obtain ⟨bL, hL⟩ : ∃ b, nameL (s.extract 0 n).data.toList = b := ⟨_, rfl⟩
  obtain ⟨bR, hR⟩ : ∃ b, nameL (s.extract n s.size).data.toList = b := ⟨_, rfl⟩
  have hW : nameL s.data.toList = (decide (s.size ≤ 64) && bL && bR) := by
    by_cases h : s.size ≤ 64
    · rw [nameL_cut h0 (by omega) (by omega), ← hL, ← hR, extract_head, extract_tail]
      simp [h]
    · rw [nameL_long (by omega)]; simp [h]
  have kW := fun w => zz_any s _ hW (by unfold maxLen; omega) w
  have kL := fun w => zz_any _ _ hL (by rw [ByteArray.size_extract]; unfold maxLen; omega) w
  have kR := fun w => zz_any _ _ hR (by rw [ByteArray.size_extract]; unfold maxLen; omega) w
  have kC := fun w => zz_any _ _ (one_byte s n hn) (by rw [ByteArray.size_extract]; unfold maxLen; omega) w
  have kN := fun w => byte_any (s[n].toNat : Int) w
  clear hL hR hW
  have g1 : decide ((n : Int) < 0) = false := by simp
  have g2 : decide (s.size < n) = false := by simp; omega
  have g3 : decide ((1 : Int) ≤ (s.size : Int)) = true := by simp; omega
  have q1 : (n : Int) ≤ (s.size : Int) := by omega
  have q2 : (0 : Int) ≤ (n : Int) := by omega
  have q3 : (n : Int) < (s.size : Int) := by omega
  clear hlen
  by_cases h64 : s.size ≤ 64
  · have g4 : decide ((s.size : Int) ≤ 64) = true := by simp; omega
    simp only [h64, decide_true, Bool.true_and] at kW
    cases bL <;> cases bR
    all_goals
      simp only [Bool.and_true, Bool.and_false] at kW
      go_enter Try.func3, Try.ntmps3
      go_wp2_with (go_at_call 5; refine k5.mono ?_; rintro e w' ⟨rfl, rfl⟩)
      refine (kW _).mono ?_
      rintro e w' ⟨rfl, rfl⟩
      go_wp2_with fail
      refine (kL _).mono ?_
      rintro e w' ⟨rfl, rfl⟩
      go_wp2_with fail
      refine (kR _).mono ?_
      rintro e w' ⟨rfl, rfl⟩
      go_wp2_with fail
      clear kW kL kR
      go_quiet (first | (go_at_call 6; exact Calls.quiet_of_same (kC _)) | (go_at_call 7; exact Calls.quiet_of_same (kN _)))
      go_wp2_with fail
      go_ret
      exact ⟨rfl, _, rfl⟩
  · have g4 : decide ((s.size : Int) ≤ 64) = false := by simp; omega
    simp only [h64, decide_false, Bool.false_and] at kW
    go_enter Try.func3, Try.ntmps3
    go_wp2_with (go_at_call 5; refine k5.mono ?_; rintro e w' ⟨rfl, rfl⟩)
    refine (kW _).mono ?_
    rintro e w' ⟨rfl, rfl⟩
    go_wp2_with fail
    refine (kL _).mono ?_
    rintro e w' ⟨rfl, rfl⟩
    go_wp2_with fail
    refine (kR _).mono ?_
    rintro e w' ⟨rfl, rfl⟩
    clear kW kL kR
    go_wp2_with fail
    go_quiet (first | (go_at_call 6; exact Calls.quiet_of_same (kC _)) | (go_at_call 7; exact Calls.quiet_of_same (kN _)))
    go_wp2_with fail
    go_ret
    exact ⟨rfl, _, rfl⟩

set_option maxHeartbeats 800000 in
theorem law3_zero (s : ByteArray) (hn : 0 < s.size) (hs : s.size ≤ 65536) (w : World) :
    Calls Try.prog 3 #[.string s, .int .i64 0] w fun e w' => e = .returned (.bool true) ∧ ∃ m, w' = w.drewN m := by
  have hlen := bytesLen s
  have k5 := bytes5_true s 0 hs w
  obtain ⟨b, hb⟩ : ∃ b, nameL s.data.toList = b := ⟨_, rfl⟩
  have hl : 64 < s.size → b = false := fun h => hb.symm.trans (nameL_long (by omega))
  have HL : Hid (64 < s.size → b = false) := hl
  have kW := fun w => zz_any s _ hb (by unfold maxLen; omega) w
  have kC := fun w => zz_any _ _ (one_byte s 0 hn) (by rw [ByteArray.size_extract]; unfold maxLen; omega) w
  have kN := fun w => byte_any (s[0].toNat : Int) w
  clear hb hl
  have g2 : decide ((s.size : Int) < 0) = false := by simp
  have g3 : decide ((1 : Int) ≤ (s.size : Int)) = true := by simp; omega
  have q3 : (0 : Int) < (s.size : Int) := by omega
  clear hlen
  by_cases h64 : s.size ≤ 64
  · have g4 : decide ((s.size : Int) ≤ 64) = true := by simp; omega
    cases b
    all_goals
      go_enter Try.func3, Try.ntmps3
      go_wp2_with (go_at_call 5; refine k5.mono ?_; rintro e w' ⟨rfl, rfl⟩)
      refine (kW _).mono ?_
      rintro e w' ⟨rfl, rfl⟩
      go_wp2_with fail
      refine (kW _).mono ?_
      rintro e w' ⟨rfl, rfl⟩
      clear kW
      go_wp2_with fail
      go_quiet (first | (go_at_call 6; exact Calls.quiet_of_same (kC _)) | (go_at_call 7; exact Calls.quiet_of_same (kN _)))
      go_wp2_with fail
      go_ret
      exact ⟨rfl, _, rfl⟩
  · have g4 : decide ((s.size : Int) ≤ 64) = false := by simp; omega
    have e := HL.out (by omega)
    subst e
    go_enter Try.func3, Try.ntmps3
    go_wp2_with (go_at_call 5; refine k5.mono ?_; rintro e w' ⟨rfl, rfl⟩)
    refine (kW _).mono ?_
    rintro e w' ⟨rfl, rfl⟩
    go_wp2_with fail
    refine (kW _).mono ?_
    rintro e w' ⟨rfl, rfl⟩
    clear kW
    go_wp2_with fail
    go_quiet (first | (go_at_call 6; exact Calls.quiet_of_same (kC _)) | (go_at_call 7; exact Calls.quiet_of_same (kN _)))
    go_wp2_with fail
    go_ret
    exact ⟨rfl, _, rfl⟩

set_option maxHeartbeats 800000 in
theorem law3_full (s : ByteArray) (hn : 0 < s.size) (hs : s.size ≤ 65536) (w : World) :
    Calls Try.prog 3 #[.string s, .int .i64 (s.size : Int)] w fun e w' => e = .returned (.bool true) ∧ ∃ m, w' = w.drewN m := by
  have hlen := bytesLen s
  have k5 := bytes5_true s s.size hs w
  obtain ⟨b, hb⟩ : ∃ b, nameL s.data.toList = b := ⟨_, rfl⟩
  have hl : 64 < s.size → b = false := fun h => hb.symm.trans (nameL_long (by omega))
  have HL : Hid (64 < s.size → b = false) := hl
  have kW := fun w => zz_any s _ hb (by unfold maxLen; omega) w
  clear hb hl
  have g1 : decide ((s.size : Int) < 0) = false := by simp
  have g3 : decide ((1 : Int) ≤ (s.size : Int)) = true := by simp; omega
  have q3 : (0 : Int) < (s.size : Int) := by omega
  clear hlen
  by_cases h64 : s.size ≤ 64
  · have g4 : decide ((s.size : Int) ≤ 64) = true := by simp; omega
    cases b
    all_goals
      go_enter Try.func3, Try.ntmps3
      go_wp2_with (go_at_call 5; refine k5.mono ?_; rintro e w' ⟨rfl, rfl⟩)
      refine (kW _).mono ?_
      rintro e w' ⟨rfl, rfl⟩
      go_wp2_with fail
      refine (kW _).mono ?_
      rintro e w' ⟨rfl, rfl⟩
      clear kW
      go_wp2_with fail
      go_ret
      exact ⟨rfl, 0, rfl⟩
  · have g4 : decide ((s.size : Int) ≤ 64) = false := by simp; omega
    have e := HL.out (by omega)
    subst e
    go_enter Try.func3, Try.ntmps3
    go_wp2_with (go_at_call 5; refine k5.mono ?_; rintro e w' ⟨rfl, rfl⟩)
    refine (kW _).mono ?_
    rintro e w' ⟨rfl, rfl⟩
    go_wp2_with fail
    refine (kW _).mono ?_
    rintro e w' ⟨rfl, rfl⟩
    clear kW
    go_wp2_with fail
    go_ret
    exact ⟨rfl, 0, rfl⟩

set_option maxHeartbeats 800000 in
theorem law3_empty (s : ByteArray) (hn : s.size = 0) (w : World) :
    Calls Try.prog 3 #[.string s, .int .i64 0] w fun e w' => e = .returned (.bool true) ∧ ∃ m, w' = w.drewN m := by
  have k5 := bytes5_true s 0 (by omega) w
  have kW := fun w => zz_any s false (nameL_zero (by rw [bytesLen]; exact hn)) (by unfold maxLen; omega) w
  have g1 : decide ((s.size : Int) < 0) = false := by simp
  have g3 : decide ((1 : Int) ≤ (s.size : Int)) = false := by rw [hn]; rfl
  have q3 : ¬ (0 : Int) < (s.size : Int) := by omega
  have q4 : (s.size : Int) ≤ 65536 := by omega
  clear hn
  go_enter Try.func3, Try.ntmps3
  go_wp2_with (go_at_call 5; refine k5.mono ?_; rintro e w' ⟨rfl, rfl⟩)
  refine (kW _).mono ?_
  rintro e w' ⟨rfl, rfl⟩
  clear kW
  go_wp2_with fail
  go_ret
  exact ⟨rfl, 0, rfl⟩
end Go.Proofs.Qxb6625658a
