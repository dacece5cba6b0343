/-
  THE WALK of lawClone.
-/
import Derived.Test.Qxb6600321aMem
namespace Go.Proofs.Qxb6600321a
open Go.RowKit

set_option maxHeartbeats 400000 in
theorem clone_some (x : Addr) (n cap : Nat) (zs : List Int) (w : World) (hn : zs.length = n) (hcap : n ≤ 131072)
    (hc : 0 < n → ∃ b o, x = ⟨b, o, none⟩ ∧ b < w.heap.size ∧ ∀ i, i < n → w.cell? ⟨b, o + i, none⟩ = some (.int .u64 (at0 zs i))) :
    Calls Try.prog 12 #[.slice (some x) n cap] w fun e w' => e = .returned (.slice (some ⟨w.heap.size, 0, none⟩) n n) ∧ Blk w' w.heap.size zs ∧ Below w.heap.size w w' := by
  obtain ⟨i0, hi, hz0, hz1, hz2⟩ := info_parts info26
  have HC : Hid _ := hc
  have HN : Hid _ := hn
  clear hc hn
  have hnil := Lib.run_eql_slice_nil (P := Try.prog) w 22 26 (some x) n cap 0 0 Try.underlying22
  go_enter Try.func12, Try.ntmps12
  go_wp2_with (at_make; go_must (refine wpList_make_full _ rfl _ _ 22 rfl w.heap.size 26 i0 (.int .u64 0) 1 Try.underlying22 hi hz0 hz1 .i64 .i64 _ _ n rfl rfl rfl rfl (by rw [hz2]; omega) (by unfold maxLen; omega) (Nat.le_refl _) ?_))
  intro w1 hown hgrow
  have hb1 : Hid (Blk w1 w.heap.size (cpy zs n 0)) := by rw [cpy_zero]; exact blk_made hown
  have hbel1 : Below w.heap.size w w1 := (Below.refl _ _).grown hgrow (Nat.le_refl _) (fun k h => by cases h)
  clear hown hgrow
  go_wp2
  go_loopw [4] (fun i wr => ∃ k : Nat, k ≤ n ∧ i = .int .i64 k ∧ Hid (Blk wr w.heap.size (cpy zs n k)) ∧ Below w.heap.size w wr) (fun i _ => n - (intOf i).toNat)
  case atStart => exact ⟨0, Nat.zero_le _, rfl, hb1, hbel1⟩
  case round =>
    obtain ⟨k, hk, rfl, hB, hbel⟩ := hrel
    by_cases hlt : k < n
    · obtain ⟨b, o, rfl, hbl, hcs⟩ := HC.out (by omega)
      have hsrc : wr.cell? ⟨b, o + k, none⟩ = some (.int .u64 (at0 zs k)) := (hbel.cell (p := ⟨b, o + k, none⟩) hbl).trans (hcs k hlt)
      have hdst := hB.out.cell k (by simpa [cpy, tab_length] using hlt)
      have hfr := hB.out.free k
      clear hcs
      go_wp2
      go_roundw
      case rel => exact ⟨k + 1, by omega, by go_num, by rw [← cpy_step]; exact hB.out.set k _, hbel.setCell (Nat.le_refl _) _⟩
      case measure => simp [intOf]; omega
    · go_wp2
      go_ret
      have e : k = n := by omega
      subst e
      refine ⟨rfl, ?_, hbel⟩
      have hB' := hB.out
      rw [← HN.out, cpy_end] at hB'
      exact hB'

set_option maxHeartbeats 400000 in
theorem clone_nil (w : World) : Calls Try.prog 12 #[.slice none 0 0] w fun e w' => e = .returned (.slice none 0 0) ∧ w' = w := by
  have hnil := Lib.run_eql_slice_nil (P := Try.prog) w 22 26 none 0 0 0 0 Try.underlying22
  go_enter Try.func12, Try.ntmps12
  go_wp2
  go_ret
  exact ⟨rfl, rfl⟩

/-- lawClone: a vector that reads as the same list; nothing old has turned. -/
theorem clone_any (v : Value) (zs : List Int) (w : World) (hv : Vec w v zs) (hl : zs.length ≤ 131072) :
    Calls Try.prog 12 #[v] w fun e w' => ∃ a c, e = .returned (.slice a zs.length c) ∧ Vec w' (.slice a zs.length c) zs ∧ Below w.heap.size w w' := by
  obtain ⟨a, cap, rfl, h1, h2, h3⟩ := hv
  cases a with
  | none =>
    obtain rfl := h2 rfl
    obtain rfl : zs = [] := List.eq_nil_of_length_eq_zero (by omega)
    exact (clone_nil w).mono fun e w' ⟨he, hw⟩ => ⟨_, _, he, Vec.nil _, by rw [hw]; exact Below.refl _ _⟩
  | some x =>
    refine (clone_some x zs.length cap zs w rfl hl (fun hp => ?_)).mono fun e w' ⟨he, hb, hbel⟩ => ⟨_, _, he, Vec.ofBlk hb, hbel⟩
    obtain ⟨b, o, e, hlt, hc⟩ := h3 hp
    exact ⟨b, o, Option.some.inj e, hlt, hc⟩
end Go.Proofs.Qxb6600321a
