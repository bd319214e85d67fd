import Derived.Test.Qxb6626925aProg
import Derived.WalkKit
namespace Go.Proofs.Qxb6626925a
open Go.RowKit

set_option maxHeartbeats 400000 in
theorem passes_any (n : ByteArray) (a b c : Bool) (w : World) :
    Calls Try.prog 6 #[.agg #[.string n, .bool a, .bool b, .bool c]] w fun e w' => e = .returned (.bool (a || b)) ∧ w' = w.alloc (.cells #[.string n, .bool a, .bool b, .bool c] 24) := by
  cases a <;> cases b
  all_goals
    go_enter Try.func6, Try.ntmps6
    go_wp2
    go_ret
    exact ⟨rfl, rfl⟩

set_option maxHeartbeats 400000 in
theorem bytes5_any (a0 : ByteArray) (a1 a2 a3 : Bool) (a4 : ByteArray) (a5 a6 a7 : Bool) (w0 : a0.size ≤ maxLen) (w4 : a4.size ≤ maxLen) (w : World) :
    Calls Try.prog 5 #[.string a0, .bool a1, .bool a2, .bool a3, .string a4, .bool a5, .bool a6, .bool a7] w fun e w' => (∃ v, e = .returned (.bool v)) ∧ w' = w := by
  unfold maxLen at w0 w4
  go_enter Try.func5, Try.ntmps5
  go_wp2
  all_goals
    go_ret
    exact ⟨⟨_, rfl⟩, rfl⟩

set_option maxHeartbeats 400000 in
theorem bytes7_any (a0 : ByteArray) (a1 a2 a3 : Bool) (a4 : ByteArray) (a5 : Bool) (w0 : a0.size ≤ maxLen) (w4 : a4.size ≤ maxLen) (w : World) :
    Calls Try.prog 7 #[.string a0, .bool a1, .bool a2, .bool a3, .string a4, .bool a5] w fun e w' => (∃ v, e = .returned (.bool v)) ∧ w' = w := by
  unfold maxLen at w0 w4
  go_enter Try.func7, Try.ntmps7
  go_wp2
  all_goals
    go_ret
    exact ⟨⟨_, rfl⟩, rfl⟩
end Go.Proofs.Qxb6626925a
