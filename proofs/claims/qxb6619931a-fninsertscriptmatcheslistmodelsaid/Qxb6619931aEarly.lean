import Derived.Test.Qxb6619931aScript
import Derived.Deep.Cut
import Derived.Deep.CutRange
namespace Go.Proofs.Qxb6619931a
open Go.RowKit

/-- The sizes that the law looks at. -/
structure Good (l0 l1 l6 l7 l8 : Nat) (x2 x3 x4 : Int) : Prop where
  h0 : (l0 : Int) ≤ 16384
  h1 : (l1 : Int) ≤ 16384
  h6 : (l6 : Int) ≤ 16384
  h7 : (l7 : Int) ≤ 16384
  h8 : (l8 : Int) ≤ 16384
  s0 : 0 ≤ x2
  s1 : x2 ≤ 4096
  t0 : 0 ≤ x3
  t1 : x3 ≤ 4096
  k0 : 0 ≤ x4
  e1 : (l1 : Int) = l0
  e7 : (l7 : Int) = l6
  e8 : (l8 : Int) = l6

set_option maxRecDepth 100000 in
set_option maxHeartbeats 2000000 in
theorem early (a0 a1 a6 a7 a8 : Option Addr) (l0 c0 l1 c1 l6 c6 l7 c7 l8 c8 : Nat) (x2 x3 x4 : Int) (x5 : Bool) (w : World) (h : ¬ Good l0 l1 l6 l7 l8 x2 x3 x4) :
    Calls Try.prog 5 #[.slice a0 l0 c0, .slice a1 l1 c1, .int .i64 x2, .int .i64 x3, .int .i64 x4, .bool x5, .slice a6 l6 c6, .slice a7 l7 c7, .slice a8 l8 c8] w fun e w' => e = .returned (.bool true) ∧ w = w' := by
  by_cases h0 : (l0 : Int) ≤ 16384
  case neg =>
    go_enter Try.func5, Try.ntmps5
    go_wp2_with fail
    refine (bytes_any _ _ _ _ _ _ _ _ _ _ _ _ _ _ _ _ _ _ _ _).mono ?_
    rintro e w1 ⟨⟨b, rfl⟩, rfl⟩
    cases b
    all_goals
      go_wp2
      go_ret
      exact ⟨rfl, rfl⟩
  by_cases h1 : (l1 : Int) ≤ 16384
  case neg =>
    go_enter Try.func5, Try.ntmps5
    go_wp2_with fail
    refine (bytes_any _ _ _ _ _ _ _ _ _ _ _ _ _ _ _ _ _ _ _ _).mono ?_
    rintro e w1 ⟨⟨b, rfl⟩, rfl⟩
    cases b
    all_goals
      go_wp2
      go_ret
      exact ⟨rfl, rfl⟩
  by_cases h6 : (l6 : Int) ≤ 16384
  case neg =>
    go_enter Try.func5, Try.ntmps5
    go_wp2_with fail
    refine (bytes_any _ _ _ _ _ _ _ _ _ _ _ _ _ _ _ _ _ _ _ _).mono ?_
    rintro e w1 ⟨⟨b, rfl⟩, rfl⟩
    cases b
    all_goals
      go_wp2
      go_ret
      exact ⟨rfl, rfl⟩
  by_cases h7 : (l7 : Int) ≤ 16384
  case neg =>
    go_enter Try.func5, Try.ntmps5
    go_wp2_with fail
    refine (bytes_any _ _ _ _ _ _ _ _ _ _ _ _ _ _ _ _ _ _ _ _).mono ?_
    rintro e w1 ⟨⟨b, rfl⟩, rfl⟩
    cases b
    all_goals
      go_wp2
      go_ret
      exact ⟨rfl, rfl⟩
  by_cases h8 : (l8 : Int) ≤ 16384
  case neg =>
    go_enter Try.func5, Try.ntmps5
    go_wp2_with fail
    refine (bytes_any _ _ _ _ _ _ _ _ _ _ _ _ _ _ _ _ _ _ _ _).mono ?_
    rintro e w1 ⟨⟨b, rfl⟩, rfl⟩
    cases b
    all_goals
      go_wp2
      go_ret
      exact ⟨rfl, rfl⟩
  by_cases s0 : 0 ≤ x2
  case neg =>
    go_enter Try.func5, Try.ntmps5
    go_wp2_with fail
    refine (bytes_any _ _ _ _ _ _ _ _ _ _ _ _ _ _ _ _ _ _ _ _).mono ?_
    rintro e w1 ⟨⟨b, rfl⟩, rfl⟩
    cases b
    all_goals
      go_wp2
      go_ret
      exact ⟨rfl, rfl⟩
  by_cases s1 : x2 ≤ 4096
  case neg =>
    go_enter Try.func5, Try.ntmps5
    go_wp2_with fail
    refine (bytes_any _ _ _ _ _ _ _ _ _ _ _ _ _ _ _ _ _ _ _ _).mono ?_
    rintro e w1 ⟨⟨b, rfl⟩, rfl⟩
    cases b
    all_goals
      go_wp2
      go_ret
      exact ⟨rfl, rfl⟩
  by_cases t0 : 0 ≤ x3
  case neg =>
    go_enter Try.func5, Try.ntmps5
    go_wp2_with fail
    refine (bytes_any _ _ _ _ _ _ _ _ _ _ _ _ _ _ _ _ _ _ _ _).mono ?_
    rintro e w1 ⟨⟨b, rfl⟩, rfl⟩
    cases b
    all_goals
      go_wp2
      go_ret
      exact ⟨rfl, rfl⟩
  by_cases t1 : x3 ≤ 4096
  case neg =>
    go_enter Try.func5, Try.ntmps5
    go_wp2_with fail
    refine (bytes_any _ _ _ _ _ _ _ _ _ _ _ _ _ _ _ _ _ _ _ _).mono ?_
    rintro e w1 ⟨⟨b, rfl⟩, rfl⟩
    cases b
    all_goals
      go_wp2
      go_ret
      exact ⟨rfl, rfl⟩
  by_cases k0 : 0 ≤ x4
  case neg =>
    go_enter Try.func5, Try.ntmps5
    go_wp2_with fail
    refine (bytes_any _ _ _ _ _ _ _ _ _ _ _ _ _ _ _ _ _ _ _ _).mono ?_
    rintro e w1 ⟨⟨b, rfl⟩, rfl⟩
    cases b
    all_goals
      go_wp2
      go_ret
      exact ⟨rfl, rfl⟩
  by_cases e1 : (l1 : Int) = l0
  case neg =>
    go_enter Try.func5, Try.ntmps5
    go_wp2_with fail
    refine (bytes_any _ _ _ _ _ _ _ _ _ _ _ _ _ _ _ _ _ _ _ _).mono ?_
    rintro e w1 ⟨⟨b, rfl⟩, rfl⟩
    cases b
    all_goals
      go_wp2
      go_ret
      exact ⟨rfl, rfl⟩
  by_cases e7 : (l7 : Int) = l6
  case neg =>
    go_enter Try.func5, Try.ntmps5
    go_wp2_with fail
    refine (bytes_any _ _ _ _ _ _ _ _ _ _ _ _ _ _ _ _ _ _ _ _).mono ?_
    rintro e w1 ⟨⟨b, rfl⟩, rfl⟩
    cases b
    all_goals
      go_wp2
      go_ret
      exact ⟨rfl, rfl⟩
  by_cases e8 : (l8 : Int) = l6
  case neg =>
    go_enter Try.func5, Try.ntmps5
    go_wp2_with fail
    refine (bytes_any _ _ _ _ _ _ _ _ _ _ _ _ _ _ _ _ _ _ _ _).mono ?_
    rintro e w1 ⟨⟨b, rfl⟩, rfl⟩
    cases b
    all_goals
      go_wp2
      go_ret
      exact ⟨rfl, rfl⟩
  exact absurd ⟨h0, h1, h6, h7, h8, s0, s1, t0, t1, k0, e1, e7, e8⟩ h
end Go.Proofs.Qxb6619931a
