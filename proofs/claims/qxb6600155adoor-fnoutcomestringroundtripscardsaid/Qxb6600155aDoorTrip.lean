/-
  THE WALKS of wireB1ParseOutcome at an Outcome's own text, and of the law FnOutcomeStringRoundTrips.
-/
import Derived.Test.Qxb6600155aDoorText
namespace Go.Proofs.Qxb6600155aDoor
open Go.RowKit Go.Shelf

theorem wrapped_ostr (n : Nat) (h : 3 ≤ n) (hn : n < 256) (w : World) :
    Calls Tryd.prog 11 #[.string (ostr n), .string ohead] w fun e w' => e = .returned (.tuple #[.int .i64 n, .bool true]) ∧ ∃ m, w' = w.drewN m := by
  have hv := (odig_all ⟨n, hn⟩).2.1
  simp only at hv
  have c := wrapped_any (ostr n) ohead (olen n) (odig n) w rfl (ostr_size_big n h) (olen_b n).1 (olen_b n).2
    (fun k hk => ostr_head n h k hk _ _) (ostr_last n h _) (fun k hk => ostr_dig n h hn k hk _) (fun k => odig_le n k hn) (odig_all ⟨n, hn⟩).1 (by rw [hv]; omega)
  rw [hv] at c
  exact c

set_option maxHeartbeats 400000 in
theorem parse_any (n : Nat) (hn : n < 256) (w : World) :
    Calls Tryd.prog 9 #[.string (ostr n)] w fun e w' => e = .returned (.tuple #[.int .u8 n, .bool true]) ∧ ∃ m, w' = w.drewN m := by
  by_cases h0 : n = 0
  · subst h0
    rw [ostr_0]
    go_enter Tryd.func9, Tryd.ntmps9
    go_wp2
    go_ret2
    exact ⟨rfl, 0, rfl⟩
  by_cases h1 : n = 1
  · subst h1
    rw [ostr_1]
    go_enter Tryd.func9, Tryd.ntmps9
    go_wp2
    go_ret2
    exact ⟨rfl, 0, rfl⟩
  by_cases h2 : n = 2
  · subst h2
    rw [ostr_2]
    go_enter Tryd.func9, Tryd.ntmps9
    go_wp2
    go_ret2
    exact ⟨rfl, 0, rfl⟩
  have h3 : 3 ≤ n := by omega
  have T := ostr_toList n
  have A := otext_ne n h3 [117, 110, 100, 101, 99, 105, 100, 101, 100] (by decide)
  have B := otext_ne n h3 [99, 111, 109, 109, 105, 116, 116, 101, 100] (by decide)
  have C := otext_ne n h3 [97, 98, 111, 114, 116, 101, 100] (by decide)
  go_enter Tryd.func9, Tryd.ntmps9
  go_wp2_with (go_at_call 11; go_must (refine (wrapped_ostr n h3 hn _).mono ?_; rintro e w' ⟨rfl, m, rfl⟩))
  go_ret2
  exact ⟨rfl, m, rfl⟩

set_option maxHeartbeats 400000 in
theorem trips_any (a : Nat) (ha : a < 256) (w : World) (htab : Tab w) :
    Calls Tryd.prog 5 #[.int .u8 a] w fun e w' => e = .returned (.bool true) ∧ Below w.heap.size w w' := by
  have HT : Hid (Tab w) := htab
  clear htab
  go_enter Tryd.func5, Tryd.ntmps5
  go_wp2_with (first
    | (go_at_call 10; go_must (refine (string_any _ (by assumption) _ HT.out).mono ?_; rintro e w1 ⟨rfl, hb1⟩))
    | (go_at_call 9; go_must (refine (parse_any _ (by assumption) _).mono ?_; rintro e w2 ⟨rfl, m, rfl⟩)))
  go_ret
  exact ⟨rfl, hb1.trans (below_drewN (Below.refl _ _) m)⟩
end Go.Proofs.Qxb6600155aDoor
