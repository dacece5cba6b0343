/-
  THE WALK of the law FnJailbreakBoundEmptyMethodIsClassifier, its four ways.
-/
import Derived.Test.Qxb6600293aWalks
namespace Go.Proofs.Qxb6600293a
open Go.RowKit
attribute [local go_sem] run_store_float

set_option maxHeartbeats 1000000 in
theorem law_ff (x y : Nat) (w : World) :
    Calls Try.prog 3 #[.bool false, .float .f64 x, .bool false, .float .f64 y] w fun e w' => e = .returned (.bool true) ∧ Below w.heap.size w w' := by
  go_enter Try.func3, Try.ntmps3
  go_wp2_with (go_at_call 8; go_must (refine (scoring_any _ (.inl rfl) _ _).mono ?_; rintro e w' ⟨rfl, rfl⟩))
  go_region_with (first
    | (go_at_call 9; go_must (refine (same_any _ _).mono ?_; rintro e w' ⟨rfl, rfl⟩))
    | (go_at_call 10; go_must (refine (bound_none _ (by first | exact .inl rfl | exact .inr rfl) _).mono ?_; rintro e w' ⟨rfl, rfl⟩)))
  all_goals
    go_wp2
    go_ret
    refine ⟨rfl, ?_⟩
    repeat (first | exact Below.refl _ _ | refine Below.drew ?_ | refine Below.alloc ?_ (by simp <;> omega) _)

set_option maxHeartbeats 1000000 in
theorem law_ft (x y : Nat) (w : World) :
    Calls Try.prog 3 #[.bool false, .float .f64 x, .bool true, .float .f64 y] w fun e w' => e = .returned (.bool true) ∧ Below w.heap.size w w' := by
  go_enter Try.func3, Try.ntmps3
  go_wp2_with (go_at_call 8; go_must (refine (scoring_any _ (.inl rfl) _ _).mono ?_; rintro e w' ⟨rfl, rfl⟩))
  go_region_with (first
    | (go_at_call 9; go_must (refine (same_any _ _).mono ?_; rintro e w' ⟨rfl, rfl⟩))
    | (go_at_call 10; go_must (refine (bound_guard _ (by first | exact .inl rfl | exact .inr rfl) _ y _ (by simp <;> omega) (by first | (simp; done) | (simp [go_sem]; done) | (go_simp; done))).mono ?_; rintro e w' ⟨rfl, rfl⟩)))
  all_goals
    go_wp2
    go_ret
    refine ⟨rfl, ?_⟩
    repeat (first | exact Below.refl _ _ | refine Below.drew ?_ | refine Below.alloc ?_ (by simp <;> omega) _)

set_option maxHeartbeats 1000000 in
theorem law_tf (x y : Nat) (w : World) :
    Calls Try.prog 3 #[.bool true, .float .f64 x, .bool false, .float .f64 y] w fun e w' => e = .returned (.bool true) ∧ Below w.heap.size w w' := by
  go_enter Try.func3, Try.ntmps3
  go_wp2_with (go_at_call 8; go_must (refine (scoring_any _ (.inl rfl) _ _).mono ?_; rintro e w' ⟨rfl, rfl⟩))
  go_region_with (first
    | (go_at_call 9; go_must (refine (same_any _ _).mono ?_; rintro e w' ⟨rfl, rfl⟩))
    | (go_at_call 10; go_must (refine (bound_own _ _ _ x _ (by simp <;> omega) (by first | (simp; done) | (simp [go_sem]; done) | (go_simp; done))).mono ?_; rintro e w' ⟨rfl, rfl⟩)))
  all_goals
    go_wp2
    go_ret
    refine ⟨rfl, ?_⟩
    repeat (first | exact Below.refl _ _ | refine Below.drew ?_ | refine Below.alloc ?_ (by simp <;> omega) _)

set_option maxHeartbeats 1000000 in
theorem law_tt (x y : Nat) (w : World) :
    Calls Try.prog 3 #[.bool true, .float .f64 x, .bool true, .float .f64 y] w fun e w' => e = .returned (.bool true) ∧ Below w.heap.size w w' := by
  go_enter Try.func3, Try.ntmps3
  go_wp2_with (go_at_call 8; go_must (refine (scoring_any _ (.inl rfl) _ _).mono ?_; rintro e w' ⟨rfl, rfl⟩))
  go_region_with (first
    | (go_at_call 9; go_must (refine (same_any _ _).mono ?_; rintro e w' ⟨rfl, rfl⟩))
    | (go_at_call 10; go_must (refine (bound_own _ _ _ x _ (by simp <;> omega) (by first | (simp; done) | (simp [go_sem]; done) | (go_simp; done))).mono ?_; rintro e w' ⟨rfl, rfl⟩)))
  all_goals
    go_wp2
    go_ret
    refine ⟨rfl, ?_⟩
    repeat (first | exact Below.refl _ _ | refine Below.drew ?_ | refine Below.alloc ?_ (by simp <;> omega) _)

theorem law_any (b1 b2 : Bool) (x y : Nat) (w : World) :
    Calls Try.prog 3 #[.bool b1, .float .f64 x, .bool b2, .float .f64 y] w fun e w' => e = .returned (.bool true) ∧ Below w.heap.size w w' := by
  cases b1 <;> cases b2
  · exact law_ff x y w
  · exact law_ft x y w
  · exact law_tf x y w
  · exact law_tt x y w

end Go.Proofs.Qxb6600293a
