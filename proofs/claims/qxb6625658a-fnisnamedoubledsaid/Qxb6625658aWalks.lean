import Derived.Test.Qxb6625658aProg
import Derived.Test.Qxb6625658aPlain
import Derived.WalkKit
import Derived.WalkSpells
import Derived.Deep.QuietTactic
import Derived.BigQuiet
import Derived.Deep.LoopGhost
import Derived.Lib.Strings
namespace Go.Proofs.Qxb6625658a
open Go.RowKit

set_option maxHeartbeats 400000 in
theorem letter_any (n : Int) (w : World) : Calls Try.prog 10 #[.int .u8 n] w fun e w' => e = .returned (.bool (letB n)) ∧ w' = w := by
  by_cases h1 : 97 ≤ n <;> by_cases h2 : n ≤ 122 <;> by_cases h3 : 65 ≤ n <;> by_cases h4 : n ≤ 90
  all_goals
    have e : letB n = ((decide (97 ≤ n) && decide (n ≤ 122)) || (decide (65 ≤ n) && decide (n ≤ 90))) := rfl
    first
    | omega
    | (simp only [h1, h2, h3, h4, decide_true, decide_false, Bool.and_true, Bool.and_false, Bool.or_true, Bool.or_false] at e
       rw [e]
       clear e
       go_enter Try.func10, Try.ntmps10
       go_wp2
       go_ret
       exact ⟨rfl, rfl⟩)

set_option maxHeartbeats 400000 in
theorem digit_any (n : Int) (w : World) : Calls Try.prog 11 #[.int .u8 n] w fun e w' => e = .returned (.bool (digB n)) ∧ w' = w := by
  by_cases h1 : 48 ≤ n <;> by_cases h2 : n ≤ 57
  all_goals
    have e : digB n = (decide (48 ≤ n) && decide (n ≤ 57)) := rfl
    first
    | omega
    | (simp only [h1, h2, decide_true, decide_false, Bool.and_true, Bool.and_false] at e
       rw [e]
       clear e
       go_enter Try.func11, Try.ntmps11
       go_wp2
       go_ret
       exact ⟨rfl, rfl⟩)

theorem ret_bool {a b : Bool} (h : a = b) : Ending.returned (.bool a) = .returned (.bool b) := by rw [h]

set_option maxHeartbeats 400000 in
theorem byte_any (n : Int) (w : World) : Calls Try.prog 7 #[.int .u8 n] w fun e w' => e = .returned (.bool (okB n)) ∧ w' = w := by
  go_enter Try.func7, Try.ntmps7
  go_wp2
  all_goals go_ret
  all_goals
    refine ⟨ret_bool ?_, rfl⟩
    rw [Bool.eq_iff_iff]
    simp [okB, letB, digB] <;> omega

theorem take_snoc (s : ByteArray) (k : Nat) (h : k < s.size) : s.data.toList.take (k + 1) = s.data.toList.take k ++ [s[k]] := by
  rw [List.take_succ_eq_append_getElem (by simpa using h)]; rfl

theorem all_next {s : ByteArray} {k : Nat} (hk : k < s.size) (h : (s.data.toList.take k).all (fun b => okB (b.toNat : Int)) = true) (hc : okB (s[k].toNat : Int) = true) :
    (s.data.toList.take (k + 1)).all (fun b => okB (b.toNat : Int)) = true := by
  rw [take_snoc s k hk, List.all_append, h]
  simp [hc]

theorem all_stop {s : ByteArray} {k : Nat} (hk : k < s.size) (hc : okB (s[k].toNat : Int) = false) : nameL s.data.toList = false := by
  have h : (s.data.toList.take (k + 1)).all (fun b => okB (b.toNat : Int)) = false := by
    rw [take_snoc s k hk, List.all_append]
    simp [hc]
  have h2 : s.data.toList.all (fun b => okB (b.toNat : Int)) = false := by
    rw [← List.take_append_drop (k + 1) s.data.toList, List.all_append, h]
    rfl
  simp [nameL, h2]

theorem all_done {s : ByteArray} (h1 : 1 ≤ s.size) (h2 : s.size ≤ 64) (h : (s.data.toList.take s.size).all (fun b => okB (b.toNat : Int)) = true) : nameL s.data.toList = true := by
  have e : s.data.toList.length = s.size := by simp
  rw [nameL_mid (by omega) (by omega)]
  rw [List.take_of_length_le (by omega)] at h
  exact h

theorem empty_iff (s : ByteArray) : s.toList.isEmpty = decide (s.size = 0) := by
  rw [Lib.toList_data, Bool.eq_iff_iff]
  have e : s.data.toList.length = s.size := by simp
  simp only [List.isEmpty_iff, decide_eq_true_eq, ← e, List.length_eq_zero_iff]

set_option maxHeartbeats 400000 in
theorem name_zero (s : ByteArray) (w : World) (h : s.size = 0) : Calls Try.prog 9 #[.string s] w fun e w' => e = .returned (.bool false) ∧ w' = w := by
  have hnm : s.toList.isEmpty = true := by rw [empty_iff]; exact decide_eq_true h
  clear h
  go_enter Try.func9, Try.ntmps9
  go_wp2
  go_ret
  exact ⟨rfl, rfl⟩

set_option maxHeartbeats 400000 in
theorem name_long (s : ByteArray) (w : World) (h : 64 < s.size) (hm : s.size ≤ maxLen) : Calls Try.prog 9 #[.string s] w fun e w' => e = .returned (.bool false) ∧ w' = w := by
  have hnm : s.toList.isEmpty = false := by rw [empty_iff]; exact decide_eq_false (by omega)
  unfold maxLen at hm
  go_enter Try.func9, Try.ntmps9
  go_wp2
  go_ret
  exact ⟨rfl, rfl⟩

set_option maxHeartbeats 800000 in
theorem name_mid (s : ByteArray) (w : World) (h1 : 1 ≤ s.size) (h2 : s.size ≤ 64) : Calls Try.prog 9 #[.string s] w fun e w' => e = .returned (.bool (nameL s.data.toList)) ∧ w' = w := by
  have hnm : s.toList.isEmpty = false := by rw [empty_iff]; exact decide_eq_false (by omega)
  obtain ⟨b, hb⟩ : ∃ b, nameL s.data.toList = b := ⟨_, rfl⟩
  rw [hb]
  have HB : Hid (nameL s.data.toList = b) := hb
  clear hb
  go_enter Try.func9, Try.ntmps9
  go_wp2
  go_loopg [3, 4] s.size (fun gk i _ wr => ∃ k : Nat, k ≤ s.size ∧ i = .int .i64 k ∧ gk = s.size - k ∧ w = wr ∧ (s.data.toList.take k).all (fun b => okB (b.toNat : Int)) = true)
  case atStart => exact ⟨0, Nat.zero_le _, rfl, rfl, rfl, rfl⟩
  case round =>
    obtain ⟨k, hk, rfl, hg, rfl, hall⟩ := hrel
    have HA : Hid ((s.data.toList.take k).all (fun b => okB (b.toNat : Int)) = true) := hall
    clear hall
    by_cases hlt : k < s.size
    · have HN : Hid (okB (s[k].toNat : Int) = true → (s.data.toList.take (k + 1)).all (fun b => okB (b.toNat : Int)) = true) := all_next hlt HA.out
      have HF : Hid (okB (s[k].toNat : Int) = false → b = false) := fun h => HB.out.symm.trans (all_stop hlt h)
      go_wp2_with fail
      generalize ((s[k].toNat : Nat) : Int) = c at HN HF ⊢
      have HO : Hid (okB c = (letB c || digB c || decide (c = 46) || decide (c = 95) || decide (c = 45) || decide (c = 47))) := rfl
      have kl := fun w => letter_any c w
      have kd := fun w => digit_any c w
      by_cases q1 : letB c = true
      · have hok : okB c = true := by rw [HO.out]; simp [q1]
        have R := HN.out hok
        have RR : Hid ((s.data.toList.take (k + 1)).all (fun b => okB (b.toNat : Int)) = true) := R
        clear R HN HF HO hok HA HB
        refine (kl _).mono ?_
        rintro e w' ⟨rfl, rfl⟩
        go_wp2_with fail
        go_roundg (s.size - (k + 1))
        case measure => omega
        case rel => exact ⟨k + 1, by omega, by go_num, rfl, rfl, RR.out⟩
      · have q1 : letB c = false := by simpa using q1
        by_cases q2 : digB c = true
        · have hok : okB c = true := by rw [HO.out]; simp [q2]
          have R := HN.out hok
          have RR : Hid ((s.data.toList.take (k + 1)).all (fun b => okB (b.toNat : Int)) = true) := R
          clear R HN HF HO hok HA HB
          refine (kl _).mono ?_
          rintro e w' ⟨rfl, rfl⟩
          go_wp2_with fail
          refine (kd _).mono ?_
          rintro e w' ⟨rfl, rfl⟩
          go_wp2_with fail
          go_roundg (s.size - (k + 1))
          case measure => omega
          case rel => exact ⟨k + 1, by omega, by go_num, rfl, rfl, RR.out⟩
        · have q2 : digB c = false := by simpa using q2
          by_cases e46 : c = 46
          · have t46 : (c != 46) = false := by simp [e46]
            have T46 : Hid (c = 46) := e46
            clear e46
            have hok : okB c = true := by rw [HO.out]; simp [T46.out]
            have R := HN.out hok
            have RR : Hid ((s.data.toList.take (k + 1)).all (fun b => okB (b.toNat : Int)) = true) := R
            clear R HN HF HO hok HA HB
            refine (kl _).mono ?_
            rintro e w' ⟨rfl, rfl⟩
            go_wp2_with fail
            refine (kd _).mono ?_
            rintro e w' ⟨rfl, rfl⟩
            go_wp2_with fail
            go_roundg (s.size - (k + 1))
            case measure => omega
            case rel => exact ⟨k + 1, by omega, by go_num, rfl, rfl, RR.out⟩
          · have t46 : (c != 46) = true := by simp [e46]
            by_cases e95 : c = 95
            · have t95 : (c != 95) = false := by simp [e95]
              have T95 : Hid (c = 95) := e95
              clear e95
              have hok : okB c = true := by rw [HO.out]; simp [T95.out]
              have R := HN.out hok
              have RR : Hid ((s.data.toList.take (k + 1)).all (fun b => okB (b.toNat : Int)) = true) := R
              clear R HN HF HO hok HA HB
              refine (kl _).mono ?_
              rintro e w' ⟨rfl, rfl⟩
              go_wp2_with fail
              refine (kd _).mono ?_
              rintro e w' ⟨rfl, rfl⟩
              go_wp2_with fail
              go_roundg (s.size - (k + 1))
              case measure => omega
              case rel => exact ⟨k + 1, by omega, by go_num, rfl, rfl, RR.out⟩
            · have t95 : (c != 95) = true := by simp [e95]
              by_cases e45 : c = 45
              · have t45 : (c != 45) = false := by simp [e45]
                have T45 : Hid (c = 45) := e45
                clear e45
                have hok : okB c = true := by rw [HO.out]; simp [T45.out]
                have R := HN.out hok
                have RR : Hid ((s.data.toList.take (k + 1)).all (fun b => okB (b.toNat : Int)) = true) := R
                clear R HN HF HO hok HA HB
                refine (kl _).mono ?_
                rintro e w' ⟨rfl, rfl⟩
                go_wp2_with fail
                refine (kd _).mono ?_
                rintro e w' ⟨rfl, rfl⟩
                go_wp2_with fail
                go_roundg (s.size - (k + 1))
                case measure => omega
                case rel => exact ⟨k + 1, by omega, by go_num, rfl, rfl, RR.out⟩
              · have t45 : (c != 45) = true := by simp [e45]
                by_cases e47 : c = 47
                · have t47 : (c != 47) = false := by simp [e47]
                  have T47 : Hid (c = 47) := e47
                  clear e47
                  have hok : okB c = true := by rw [HO.out]; simp [T47.out]
                  have R := HN.out hok
                  have RR : Hid ((s.data.toList.take (k + 1)).all (fun b => okB (b.toNat : Int)) = true) := R
                  clear R HN HF HO hok HA HB
                  refine (kl _).mono ?_
                  rintro e w' ⟨rfl, rfl⟩
                  go_wp2_with fail
                  refine (kd _).mono ?_
                  rintro e w' ⟨rfl, rfl⟩
                  go_wp2_with fail
                  go_roundg (s.size - (k + 1))
                  case measure => omega
                  case rel => exact ⟨k + 1, by omega, by go_num, rfl, rfl, RR.out⟩
                · have t47 : (c != 47) = true := by simp [e47]
                  have hok : okB c = false := by rw [HO.out]; simp [q1, q2, e46, e95, e45, e47]
                  have R := HF.out hok
                  subst R
                  clear HN HF HO hok HA HB
                  refine (kl _).mono ?_
                  rintro e w' ⟨rfl, rfl⟩
                  go_wp2_with fail
                  refine (kd _).mono ?_
                  rintro e w' ⟨rfl, rfl⟩
                  go_wp2_with fail
                  go_ret
                  exact ⟨rfl, rfl⟩
    · have e : k = s.size := by omega
      subst e
      have hb := HB.out.symm.trans (all_done h1 h2 HA.out)
      subst hb
      go_wp2
      go_ret
      exact ⟨rfl, rfl⟩

theorem name_any (s : ByteArray) (w : World) (hm : s.size ≤ maxLen) : Calls Try.prog 9 #[.string s] w fun e w' => e = .returned (.bool (nameL s.data.toList)) ∧ w' = w := by
  have e : s.data.toList.length = s.size := by simp
  by_cases h0 : s.size = 0
  · rw [nameL_zero (by omega)]; exact name_zero s w h0
  · by_cases h1 : s.size ≤ 64
    · exact name_mid s w (by omega) h1
    · rw [nameL_long (by omega)]; exact name_long s w (by omega) hm

set_option maxHeartbeats 400000 in
theorem zz_any (s : ByteArray) (b : Bool) (hb : nameL s.data.toList = b) (hm : s.size ≤ maxLen) (w : World) : Calls Try.prog 6 #[.string s] w fun e w' => e = .returned (.bool b) ∧ w' = w := by
  have k := name_any s w hm
  rw [hb] at k
  clear hb
  go_enter Try.func6, Try.ntmps6
  go_wp2_with (go_at_call 9; refine k.mono ?_; rintro e w' ⟨rfl, rfl⟩)
  go_ret
  exact ⟨rfl, rfl⟩
end Go.Proofs.Qxb6625658a
