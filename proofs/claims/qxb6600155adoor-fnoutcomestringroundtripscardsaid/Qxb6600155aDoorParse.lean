/-
  THE WALKS of wireB1ParseWrapped and wireB1ParseOutcome at an Outcome's own text.
-/
import Derived.Test.Qxb6600155aDoorWalks
namespace Go.Proofs.Qxb6600155aDoor
open Go.RowKit Go.Shelf

/-- The number that the first k digits make. -/
def pval (dg : Nat → Nat) : Nat → Nat
  | 0 => 0
  | k + 1 => pval dg k * 10 + dg k

theorem pval_le (dg : Nat → Nat) (h : ∀ k, dg k ≤ 9) : ∀ k, k ≤ 3 → pval dg k ≤ 999
  | 0, _ => by simp [pval]
  | 1, _ => by have := h 0; simp [pval]; omega
  | 2, _ => by have := h 0; have := h 1; simp [pval]; omega
  | 3, _ => by have := h 0; have := h 1; have := h 2; simp [pval]; omega
  | k + 4, hk => by omega

theorem pv_step (p d : Nat) : Value.int .i64 ((p : Int) * 10 + (48 + (d : Int) - 48)) = .int .i64 ((p * 10 + d : Nat) : Int) := by
  congr 1; omega

set_option maxHeartbeats 1000000 in
theorem wrapped_any (s hd : ByteArray) (L : Nat) (dg : Nat → Nat) (w : World) (h8 : hd.size = 8) (hs : s.size = 8 + L + 1) (hL1 : 1 ≤ L) (hL3 : L ≤ 3)
    (hh : ∀ k (h : k < 8), (s[k]'(by omega)) = (hd[k]'(by omega))) (hz : (s[8 + L]'(by omega)) = 41)
    (hdg : ∀ k (h : k < L), ((s.extract 8 (8 + L))[k]'(by simp; omega)).toNat = 48 + dg k) (hdl : ∀ k, dg k ≤ 9) (hd0 : 1 < L → dg 0 ≠ 0) (hv : pval dg L ≤ 255) :
    Calls Tryd.prog 11 #[.string s, .string hd] w fun e w' => e = .returned (.tuple #[.int .i64 (pval dg L), .bool true]) ∧ ∃ m, w' = w.drewN m := by
  have HP : Hid (∀ k, k ≤ 3 → pval dg k ≤ 999) := pval_le dg hdl
  have HD : Hid _ := hdg
  have HL : Hid _ := hdl
  have HV : Hid _ := hv
  clear hdg hdl hv
  go_enter Tryd.func11, Tryd.ntmps11
  go_wp2
  go_loopw [6] (fun i w1 => ∃ (k m : Nat), k ≤ 8 ∧ i = .int .i64 k ∧ w1 = w.drewN m) (fun i _ => 8 - (intOf i).toNat)
  case atStart => exact ⟨0, 0, Nat.zero_le _, rfl, rfl⟩
  case round =>
    obtain ⟨k, m, hk, rfl, rfl⟩ := hrel
    by_cases hlt : k < 8
    · have hx := hh k hlt
      go_wp2
      go_region
      go_wp2
      go_roundw
      case rel => exact ⟨k + 1, m + 1, by omega, by go_num, rfl⟩
      case measure => simp [intOf]; omega
    · have hx0 := HD.out 0 hL1
      have hl0 := HL.out 0
      have hx1 : 1 < L → ((48 + (dg 0 : Int)) == 48) = false := fun h => by have := hd0 h; simp; omega
      clear hd0
      by_cases hL : 1 < L
      all_goals
        go_wp2
        go_loop [8, 9] (fun n i => ∃ j : Nat, j ≤ L ∧ i = .int .i64 j ∧ n = .int .i64 (pval dg j)) (fun _ i => L - (intOf i).toNat)
        case atStart => exact ⟨0, Nat.zero_le _, rfl, rfl⟩
        case round =>
          obtain ⟨j, hj, rfl, rfl⟩ := hrel
          have hp := HP.out j (by omega)
          have hlj := HL.out j
          by_cases hlt2 : j < L
          · have hxj := HD.out j hlt2
            clear hx0
            go_wp2
            go_round
            case rel => exact ⟨j + 1, by omega, by go_num, pv_step _ _⟩
            case measure => simp [intOf]; omega
          · obtain rfl : j = L := by omega
            have hv := HV.out
            go_wp2
            go_ret2
            exact ⟨rfl, m, rfl⟩
end Go.Proofs.Qxb6600155aDoor
