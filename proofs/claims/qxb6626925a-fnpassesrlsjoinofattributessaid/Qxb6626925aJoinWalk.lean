import Derived.Test.Qxb6626925aWalks
import Derived.Deep.DeepCutAuto
namespace Go.Proofs.Qxb6626925a
open Go.RowKit

set_option maxHeartbeats 2000000 in
theorem walk3 (a0 : ByteArray) (a1 a2 a3 : Bool) (a4 : ByteArray) (a5 a6 a7 : Bool) (w0 : a0.size ≤ maxLen) (w4 : a4.size ≤ maxLen) (w : World) :
    Calls Try.prog 3 #[.string a0, .bool a1, .bool a2, .bool a3, .string a4, .bool a5, .bool a6, .bool a7] w fun e w' => e = .returned (.bool true) ∧ Grown w w' := by
  have hb := bytes5_any a0 a1 a2 a3 a4 a5 a6 a7 w0 w4
  unfold maxLen at w0 w4
  go_enter Try.func3, Try.ntmps3
  go_upto_region 10 with (go_at_call 5; refine (hb _).mono ?_; rintro e w' ⟨⟨v, rfl⟩, rfl⟩)
  all_goals try (go_ret; exact ⟨rfl, Grown.refl _⟩)
  go_cut [56] (fun t wx => t = .bool (a1 || a5) ∧ wx = (w'.alloc (.cells #[.string a0, .bool a1, .bool a2, .bool a3] 24)).alloc (.cells #[.string a4, .bool a5, .bool a6, .bool a7] 24))
  case first =>
    cases a1 <;> cases a5
    all_goals
      go_wp2
      go_meet
      exact ⟨rfl, rfl⟩
  case rest =>
    obtain ⟨rfl, rfl⟩ := hcut
    go_upto_if 56 with fail
    go_cut [19] (fun t wx => t = .bool (a1 || a5) ∧ wx = (w'.alloc (.cells #[.string a0, .bool a1, .bool a2, .bool a3] 24)).alloc (.cells #[.string a4, .bool a5, .bool a6, .bool a7] 24))
    case first =>
      cases a1 <;> cases a5
      all_goals
        go_wp2
        go_meet
        exact ⟨rfl, rfl⟩
    case rest =>
      obtain ⟨rfl, rfl⟩ := hcut
      go_upto_region 13 with fail
      go_cut [60] (fun t wx => t = .bool (a2 || a6) ∧ wx = (w'.alloc (.cells #[.string a0, .bool a1, .bool a2, .bool a3] 24)).alloc (.cells #[.string a4, .bool a5, .bool a6, .bool a7] 24))
      case first =>
        cases a2 <;> cases a6
        all_goals
          go_wp2
          go_meet
          exact ⟨rfl, rfl⟩
      case rest =>
        obtain ⟨rfl, rfl⟩ := hcut
        go_upto_if 60 with fail
        go_cut [20] (fun t wx => t = .bool (a2 || a6) ∧ wx = (w'.alloc (.cells #[.string a0, .bool a1, .bool a2, .bool a3] 24)).alloc (.cells #[.string a4, .bool a5, .bool a6, .bool a7] 24))
        case first =>
          cases a2 <;> cases a6
          all_goals
            go_wp2
            go_meet
            exact ⟨rfl, rfl⟩
        case rest =>
          obtain ⟨rfl, rfl⟩ := hcut
          go_upto_region 16 with fail
          go_cut [64] (fun t wx => t = .bool (a3 || a7) ∧ wx = (w'.alloc (.cells #[.string a0, .bool a1, .bool a2, .bool a3] 24)).alloc (.cells #[.string a4, .bool a5, .bool a6, .bool a7] 24))
          case first =>
            cases a3 <;> cases a7
            all_goals
              go_wp2
              go_meet
              exact ⟨rfl, rfl⟩
          case rest =>
            obtain ⟨rfl, rfl⟩ := hcut
            go_upto_if 64 with fail
            go_cut [21] (fun t wx => t = .bool (a3 || a7) ∧ wx = (w'.alloc (.cells #[.string a0, .bool a1, .bool a2, .bool a3] 24)).alloc (.cells #[.string a4, .bool a5, .bool a6, .bool a7] 24))
            case first =>
              cases a3 <;> cases a7
              all_goals
                go_wp2
                go_meet
                exact ⟨rfl, rfl⟩
            case rest =>
              obtain ⟨rfl, rfl⟩ := hcut
              go_upto_region 23 with (go_at_call 6; refine (passes_any _ _ _ _ _).mono ?_; rintro e w' ⟨rfl, rfl⟩)
              go_cut [81] (fun t wx => t = .bool ((a1 || a2) || (a5 || a6)) ∧ wx = (((((w'.alloc (.cells #[.string a0, .bool a1, .bool a2, .bool a3] 24)).alloc (.cells #[.string a4, .bool a5, .bool a6, .bool a7] 24)).alloc (.cells #[.string a0, .bool (a1 || a5), .bool (a2 || a6), .bool (a3 || a7)] 24)).alloc (.cells #[.string a0, .bool a1, .bool true, .bool a3] 24)).alloc (.cells #[.string a0, .bool a1, .bool a2, .bool a3] 24)).alloc (.cells #[.string a4, .bool a5, .bool a6, .bool a7] 24))
              case first =>
                cases a1 <;> cases a2 <;> cases a5 <;> cases a6
                all_goals
                  go_wp2
                  go_meet
                  exact ⟨rfl, rfl⟩
              case rest =>
                obtain ⟨rfl, rfl⟩ := hcut
                go_upto_if 81 with fail
                go_cut [26] (fun t wx => t = .bool ((a1 || a2) || (a5 || a6)) ∧ wx = (((((w'.alloc (.cells #[.string a0, .bool a1, .bool a2, .bool a3] 24)).alloc (.cells #[.string a4, .bool a5, .bool a6, .bool a7] 24)).alloc (.cells #[.string a0, .bool (a1 || a5), .bool (a2 || a6), .bool (a3 || a7)] 24)).alloc (.cells #[.string a0, .bool a1, .bool true, .bool a3] 24)).alloc (.cells #[.string a0, .bool a1, .bool a2, .bool a3] 24)).alloc (.cells #[.string a4, .bool a5, .bool a6, .bool a7] 24))
                case first =>
                  cases a1 <;> cases a2 <;> cases a5 <;> cases a6
                  all_goals
                    go_wp2
                    go_meet
                    exact ⟨rfl, rfl⟩
                case rest =>
                  obtain ⟨rfl, rfl⟩ := hcut
                  have hd : (!(((a1 || a5) || (a2 || a6)) == ((a1 || a2) || (a5 || a6)))) = false := by cases a1 <;> cases a2 <;> cases a5 <;> cases a6 <;> rfl
                  go_wp2_with (go_at_call 6; refine (passes_any _ _ _ _ _).mono ?_; rintro e w' ⟨rfl, rfl⟩)
                  go_ret
                  exact ⟨rfl, by repeat (first | exact Grown.refl _ | apply Grown.drew | apply Grown.alloc)⟩
end Go.Proofs.Qxb6626925a
