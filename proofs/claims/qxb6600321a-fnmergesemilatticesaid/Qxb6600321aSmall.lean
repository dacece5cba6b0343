/-
  THE WALKS of lawAt, lawEq (at two vectors that read as one list), and the two length guards.
-/
import Derived.Test.Qxb6600321aMem
namespace Go.Proofs.Qxb6600321a
open Go.RowKit

set_option maxHeartbeats 400000 in
theorem at_in (b o n cap k : Nat) (z : Int) (w : World) (hk : k < n) (hc : w.cell? ⟨b, o + k, none⟩ = some (.int .u64 z)) :
    Calls Try.prog 14 #[.slice (some ⟨b, o, none⟩) n cap, .int .i64 k] w fun e w' => e = .returned (.int .u64 z) ∧ w' = w := by
  go_enter Try.func14, Try.ntmps14
  go_wp2
  go_ret
  exact ⟨rfl, rfl⟩

set_option maxHeartbeats 400000 in
theorem at_out (a : Option Addr) (n cap k : Nat) (w : World) (hk : ¬ k < n) :
    Calls Try.prog 14 #[.slice a n cap, .int .i64 k] w fun e w' => e = .returned (.int .u64 0) ∧ w' = w := by
  go_enter Try.func14, Try.ntmps14
  go_wp2
  go_ret
  exact ⟨rfl, rfl⟩

/-- lawAt. -/
theorem at_any (v : Value) (zs : List Int) (k : Nat) (w : World) (hv : Vec w v zs) :
    Calls Try.prog 14 #[v, .int .i64 k] w fun e w' => e = .returned (.int .u64 (at0 zs k)) ∧ w' = w := by
  obtain ⟨a, cap, rfl, _, _, h3⟩ := hv
  by_cases hk : k < zs.length
  · obtain ⟨b, o, rfl, _, hc⟩ := h3 (by omega)
    exact at_in b o zs.length cap k _ w hk (hc k hk)
  · rw [at0_past zs k (by omega)]
    exact at_out a zs.length cap k w hk

set_option maxHeartbeats 1000000 in
theorem eq_core (a1 a2 : Option Addr) (n c1 c2 : Nat) (zs : List Int) (w : World) (hn : n ≤ 131072)
    (hc1 : 0 < n → ∃ b o, a1 = some ⟨b, o, none⟩ ∧ b < w.heap.size ∧ ∀ i, i < n → w.cell? ⟨b, o + i, none⟩ = some (.int .u64 (at0 zs i)))
    (hc2 : 0 < n → ∃ b o, a2 = some ⟨b, o, none⟩ ∧ b < w.heap.size ∧ ∀ i, i < n → w.cell? ⟨b, o + i, none⟩ = some (.int .u64 (at0 zs i))) :
    Calls Try.prog 19 #[.slice a1 n c1, .slice a2 n c2] w fun e w' => e = .returned (.bool true) ∧ ∃ m, w' = w.drewN m := by
  have HC1 : Hid _ := hc1
  have HC2 : Hid _ := hc2
  clear hc1 hc2
  go_enter Try.func19, Try.ntmps19
  go_wp2
  go_loopw [5] (fun i wr => ∃ k m : Nat, k ≤ n ∧ i = .int .i64 k ∧ wr = w.drewN m) (fun i _ => n - (intOf i).toNat)
  case atStart => exact ⟨0, 0, Nat.zero_le _, rfl, rfl⟩
  case round =>
    obtain ⟨k, m, hk, rfl, rfl⟩ := hrel
    by_cases hlt : k < n
    · obtain ⟨b1, o1, rfl, _, hcs1⟩ := HC1.out (by omega)
      obtain ⟨b2, o2, rfl, _, hcs2⟩ := HC2.out (by omega)
      have g1 := hcs1 k hlt
      have g2 := hcs2 k hlt
      clear hcs1 hcs2
      go_wp2
      go_region
      all_goals
        go_wp2
        go_roundw
        case rel => exact ⟨k + 1, m + 1, by omega, by go_num, rfl⟩
        case measure => simp [intOf]; omega
    · go_wp2
      go_ret
      exact ⟨rfl, m, rfl⟩

/-- lawEq, at two vectors that read as one list. -/
theorem eq_any (v1 v2 : Value) (zs : List Int) (w : World) (h1 : Vec w v1 zs) (h2 : Vec w v2 zs) (hl : zs.length ≤ 131072) :
    Calls Try.prog 19 #[v1, v2] w fun e w' => e = .returned (.bool true) ∧ Below w.heap.size w w' := by
  obtain ⟨a1, c1, rfl, _, _, h1⟩ := h1
  obtain ⟨a2, c2, rfl, _, _, h2⟩ := h2
  refine (eq_core a1 a2 zs.length c1 c2 zs w hl h1 h2).mono fun e w' ⟨he, m, hw⟩ => ⟨he, ?_⟩
  rw [hw]; exact below_drewN (Below.refl _ _) m

set_option maxHeartbeats 400000 in
/-- The guard of two: some bool, whatever it is. -/
theorem bytes2 (a1 a2 : Option Addr) (n1 n2 c1 c2 : Nat) (w : World) (h1 : n1 ≤ maxLen) (h2 : n2 ≤ maxLen) :
    Calls Try.prog 11 #[.slice a1 n1 c1, .slice a2 n2 c2] w fun e w' => (∃ b, e = .returned (.bool b)) ∧ w' = w := by
  unfold maxLen at h1 h2
  go_enter Try.func11, Try.ntmps11
  go_wp2
  all_goals
    go_ret
    exact ⟨⟨_, rfl⟩, rfl⟩

set_option maxHeartbeats 400000 in
/-- The guard of three: some bool, whatever it is. -/
theorem bytes3 (a1 a2 a3 : Option Addr) (n1 n2 n3 c1 c2 c3 : Nat) (w : World) (h1 : n1 ≤ maxLen) (h2 : n2 ≤ maxLen) (h3 : n3 ≤ maxLen) :
    Calls Try.prog 18 #[.slice a1 n1 c1, .slice a2 n2 c2, .slice a3 n3 c3] w fun e w' => (∃ b, e = .returned (.bool b)) ∧ w' = w := by
  unfold maxLen at h1 h2 h3
  go_enter Try.func18, Try.ntmps18
  go_wp2
  all_goals
    go_ret
    exact ⟨⟨_, rfl⟩, rfl⟩
end Go.Proofs.Qxb6600321a
