/-
  THE WALKS of this seat: (JailbreakRule).Scoring, (JailbreakRule).Bound, sameFloatCfgB1, and the law FnJailbreakBoundEmptyMethodIsClassifier.
-/
import Derived.Test.Qxb6600293aRows
import Derived.WalkKit
import Derived.WalkSpells
import Derived.WalkLawsBesides
import Derived.Laws.FloatArith
import Derived.Deep.RegionWith
namespace Go.Proofs.Qxb6600293a
open Go.RowKit

/-- A store of a float into memory (the walk's own set has this for integers, bools, strings, pointers and slices). -/
theorem run_store_float {P : Program} {w : World} {a : Addr} {m : Mode} (k : FloatKind) (n : Nat) : (store a (.float k n) m).run P w = stored P w a (.float k n) m := run_store P w a _ m rfl
attribute [local go_sem] run_store_float

abbrev cls : ByteArray := ⟨#[99, 108, 97, 115, 115, 105, 102, 105, 101, 114]⟩
/-- A rule's value: its method and its threshold; the rest zero. -/
abbrev rule (m : ByteArray) (p : Option Addr) : Value := .agg #[.string ⟨#[]⟩, .string m, .pointer p, .bool false, .slice none 0 0, .slice none 0 0]

/-- One over a number that is no NaN has an answer. -/
theorem one_over (x : Nat) (h : (Ieee.Format.order (FloatKind.format .f64) x x != some .eq) = false) : ∃ r, floatBits .quo .f64 4607182418800017408 x = some r := by
  have e : (FloatKind.format .f64).read 4607182418800017408 = .number false 4503599627370496 (-52) := by decide +kernel
  unfold floatBits Ieee.Format.div
  rw [e]
  unfold Ieee.Format.order at h
  generalize (FloatKind.format .f64).read x = d at h
  cases d with
  | number s m i =>
    simp only [Ieee.Datum.quotient]
    split
    · exact ⟨_, rfl⟩
    · exact ⟨_, rfl⟩
  | infinity s => exact ⟨_, rfl⟩
  | nan s f => simp [Ieee.Datum.order] at h

set_option maxHeartbeats 400000 in
theorem same_any (x : Nat) (w : World) :
    Calls Try.prog 9 #[.float .f64 x, .float .f64 x] w fun e w' => e = .returned (.bool true) ∧ w' = w := by
  by_cases h : (Ieee.Format.order (FloatKind.format .f64) x x != some .eq) = true
  · go_enter Try.func9, Try.ntmps9
    go_wp2
    go_ret
    exact ⟨rfl, rfl⟩
  · have h : (Ieee.Format.order (FloatKind.format .f64) x x != some .eq) = false := by simpa using h
    obtain ⟨r, hr⟩ := one_over x h
    have hrun : ∀ t W, (binOp .quo t (.float .f64 4607182418800017408) (.float .f64 x)).run Try.prog W = .ok (.float .f64 r) W := fun t W => run_float_arith W .quo t .f64 _ _ r hr
    clear hr
    go_enter Try.func9, Try.ntmps9
    go_wp2
    all_goals (go_ret; exact ⟨rfl, rfl⟩)

abbrev ruleCells (m : ByteArray) (p : Option Addr) : Obj := .cells #[.string ⟨#[]⟩, .string m, .pointer p, .bool false, .slice none 0 0, .slice none 0 0] 26

set_option maxHeartbeats 400000 in
theorem scoring_any (m : ByteArray) (hm : m = ⟨#[]⟩ ∨ m = cls) (p : Option Addr) (w : World) :
    Calls Try.prog 8 #[rule m p] w fun e w' => e = .returned (.string cls) ∧ w' = w.alloc (ruleCells m p) := by
  rcases hm with rfl | rfl
  all_goals
    go_enter Try.func8, Try.ntmps8
    go_wp2
    go_ret
    exact ⟨rfl, rfl⟩

set_option maxHeartbeats 400000 in
/-- Bound, where the rule has a threshold of its own. -/
theorem bound_own (m : ByteArray) (g : Option Addr) (b x : Nat) (w : World) (hb : b < w.heap.size) (hx : w.cell? ⟨b, 0, none⟩ = some (.float .f64 x)) :
    Calls Try.prog 10 #[rule m (some ⟨b, 0, none⟩), .pointer g] w fun e w' => e = .returned (.float .f64 x) ∧ w' = w.alloc (ruleCells m (some ⟨b, 0, none⟩)) := by
  go_enter Try.func10, Try.ntmps10
  go_wp2
  go_ret
  exact ⟨rfl, rfl⟩

set_option maxHeartbeats 400000 in
/-- Bound, with neither a threshold nor a guard. -/
theorem bound_none (m : ByteArray) (hm : m = ⟨#[]⟩ ∨ m = cls) (w : World) :
    Calls Try.prog 10 #[rule m none, .pointer none] w fun e w' => e = .returned (.float .f64 0) ∧ w' = (w.alloc (ruleCells m none)).alloc (ruleCells m none) := by
  go_enter Try.func10, Try.ntmps10
  go_wp2_with (go_at_call 8; go_must (refine (scoring_any m hm none _).mono ?_; rintro e w' ⟨rfl, rfl⟩))
  go_ret
  exact ⟨rfl, rfl⟩

set_option maxHeartbeats 400000 in
/-- Bound, where the guard has the threshold. -/
theorem bound_guard (m : ByteArray) (hm : m = ⟨#[]⟩ ∨ m = cls) (b x : Nat) (w : World) (hb : b < w.heap.size) (hx : w.cell? ⟨b, 2, none⟩ = some (.float .f64 x)) :
    Calls Try.prog 10 #[rule m none, .pointer (some ⟨b, 0, none⟩)] w fun e w' => e = .returned (.float .f64 x) ∧ w' = (w.alloc (ruleCells m none)).alloc (ruleCells m none) := by
  go_enter Try.func10, Try.ntmps10
  go_wp2_with (go_at_call 8; go_must (refine (scoring_any m hm none _).mono ?_; rintro e w' ⟨rfl, rfl⟩))
  go_ret
  exact ⟨rfl, rfl⟩

end Go.Proofs.Qxb6600293a
