/-
  THE WALKS of zzGroupLen, zzIndexIn, the length guard and validation.UUID.
-/
import Derived.Test.Qxb6600663aRows
import Derived.Test.Qxb6600663aPlain
import Derived.WalkKit
import Derived.WalkSpells
import Derived.WalkLawsBesides
namespace Go.Proofs.Qxb6600663a
open Go.RowKit

set_option maxHeartbeats 400000 in
theorem group_any (g : Nat) (h : g < 5) (w : World) :
    Calls Try.prog 27 #[.int .i64 g] w fun e w' => e = .returned (.int .i64 (glen g)) ∧ w' = w := by
  rcases cases5 g h with rfl | rfl | rfl | rfl | rfl
  all_goals
    go_enter Try.func27, Try.ntmps27
    go_wp2
    go_ret
    exact ⟨rfl, rfl⟩

set_option maxHeartbeats 400000 in
theorem index_any (c : Nat) (t : ByteArray) (ht : t.size ≤ 1000) (w : World) :
    Calls Try.prog 28 #[.int .u8 c, .string t] w fun e w' => (∃ r : Int, e = .returned (.int .i64 r) ∧
      ((r < 0 ∧ ∀ j (hj : j < t.size), (t[j]'hj).toNat ≠ c) ∨ (0 ≤ r ∧ ∃ j, ∃ hj : j < t.size, (t[j]'hj).toNat = c))) ∧ w' = w := by
  go_enter Try.func28, Try.ntmps28
  go_wp2
  go_loop [5] (fun i => ∃ k : Nat, k ≤ t.size ∧ i = .int .i64 k ∧ Hid (∀ j (hj : j < t.size), j < k → (t[j]'hj).toNat ≠ c)) (fun i => t.size - (intOf i).toNat)
  case atStart => exact ⟨0, Nat.zero_le _, rfl, fun j _ h => absurd h (by omega)⟩
  case round =>
    obtain ⟨k, hk, rfl, ha⟩ := hrel
    by_cases hlt : k < t.size
    · by_cases hx : t[k].toNat = c
      · have hxx : (((t[k].toNat : Nat) : Int) == (c : Int)) = true := by simp [hx]
        have HX : Hid _ := hx
        clear hx
        go_wp2
        go_ret
        exact ⟨⟨k, rfl, .inr ⟨by omega, k, hlt, HX.out⟩⟩, rfl⟩
      · have hxx : (((t[k].toNat : Nat) : Int) == (c : Int)) = false := by simp; omega
        have HX : Hid _ := hx
        clear hx
        go_wp2
        go_round
        case rel => exact ⟨k + 1, by omega, by go_num, step_ne t c k hlt ha.out HX.out⟩
        case measure => simp [intOf]; omega
    · go_wp2
      go_ret
      exact ⟨⟨-1, rfl, .inl ⟨by omega, fun j hj => ha.out j hj (by omega)⟩⟩, rfl⟩

/-- zzIndexIn over the table of hexadecimal digits, at a digit. -/
theorem hex_in (c : UInt8) (h : hexB c.toNat = true) (w : World) :
    Calls Try.prog 28 #[.int .u8 c.toNat, .string hexSet] w fun e w' => (∃ r : Int, e = .returned (.int .i64 r) ∧ 0 ≤ r) ∧ w' = w := by
  refine (index_any c.toNat hexSet (by decide) w).mono fun e w' ⟨⟨r, he, hr⟩, hw⟩ => ⟨⟨r, he, ?_⟩, hw⟩
  rcases hr with ⟨_, hn⟩ | ⟨h0, _⟩
  · have := hex_not c.toNat c.toNat_lt hn
    rw [h] at this; cases this
  · exact h0
/-- .. and at no digit. -/
theorem hex_out (c : UInt8) (h : hexB c.toNat = false) (w : World) :
    Calls Try.prog 28 #[.int .u8 c.toNat, .string hexSet] w fun e w' => (∃ r : Int, e = .returned (.int .i64 r) ∧ r < 0) ∧ w' = w := by
  refine (index_any c.toNat hexSet (by decide) w).mono fun e w' ⟨⟨r, he, hr⟩, hw⟩ => ⟨⟨r, he, ?_⟩, hw⟩
  rcases hr with ⟨h0, _⟩ | ⟨_, j, hj, hc⟩
  · exact h0
  · have := hex_yes c.toNat c.toNat_lt j hj hc
    rw [h] at this; cases this

set_option maxHeartbeats 400000 in
/-- The guard: some bool, whatever it is. -/
theorem bytes_any (s : ByteArray) (hs : s.size ≤ maxLen) (w : World) :
    Calls Try.prog 10 #[.string s] w fun e w' => (∃ b, e = .returned (.bool b)) ∧ w' = w := by
  unfold maxLen at hs
  go_enter Try.func10, Try.ntmps10
  go_wp2
  all_goals
    go_ret
    exact ⟨⟨_, rfl⟩, rfl⟩

theorem ret_bool {a b : Bool} (h : a = b) : Ending.returned (.bool a) = .returned (.bool b) := by rw [h]

theorem hex_cases (c : Nat) : (48 ≤ c ∧ c ≤ 57) ∨ (97 ≤ c ∧ c ≤ 102) ∨ (65 ≤ c ∧ c ≤ 70) ∨ (c < 48) ∨ (57 < c ∧ c < 65) ∨ (70 < c ∧ c < 97) ∨ (102 < c) := by omega

set_option maxHeartbeats 2000000 in
theorem uuid_any (s : ByteArray) (w : World) :
    Calls Try.prog 11 #[.string s] w fun e w' => e = .returned (.bool (uok s)) ∧ w' = w := by
  by_cases h36 : s.size = 36
  · go_enter Try.func11, Try.ntmps11
    go_wp2
    go_loop [3] (fun i => ∃ k : Nat, k ≤ 36 ∧ i = .int .i64 k ∧ Hid (∀ j, j < k → okb s j = true)) (fun i => 36 - (intOf i).toNat)
    case atStart => exact ⟨0, Nat.zero_le _, rfl, fun j h => absurd h (by omega)⟩
    case round =>
      obtain ⟨k, hk, rfl, ha⟩ := hrel
      by_cases hlt : k < 36
      · have hks : k < s.size := by omega
        by_cases hy : hyp k = true
        · have E := okb_hyp s k hks hy
          by_cases hc : s[k].toNat = 45
          · have hcc : (((s[k].toNat : Nat) : Int) != 45) = false := by simp; omega
            have HE : Hid (okb s k = true) := by show okb s k = true; rw [E, hc]; rfl
            clear E hc
            unfold hyp at hy
            simp only [Bool.or_eq_true, beq_iff_eq] at hy
            rcases hy with ((rfl | rfl) | rfl) | rfl
            all_goals
              go_wp2
              go_round
              case rel => first | exact ⟨9, by omega, rfl, step_ok s 8 ha.out HE.out⟩ | exact ⟨14, by omega, rfl, step_ok s 13 ha.out HE.out⟩ | exact ⟨19, by omega, rfl, step_ok s 18 ha.out HE.out⟩ | exact ⟨24, by omega, rfl, step_ok s 23 ha.out HE.out⟩
              case measure => simp [intOf]
          · have hcc : (((s[k].toNat : Nat) : Int) != 45) = true := by simp; omega
            have HE : Hid (okb s k = false) := by show okb s k = false; rw [E]; simpa using hc
            clear E hc
            unfold hyp at hy
            simp only [Bool.or_eq_true, beq_iff_eq] at hy
            rcases hy with ((rfl | rfl) | rfl) | rfl
            all_goals
              go_wp2
              go_ret
              exact ⟨ret_bool (uok_bad s _ hlt HE.out).symm, rfl⟩
        · have hy' : hyp k = false := by simpa using hy
          have E := okb_hex s k hks hy'
          have HE : Hid _ := E
          clear E
          unfold hyp at hy'
          simp only [Bool.or_eq_false_iff, beq_eq_false_iff_ne] at hy'
          obtain ⟨⟨⟨n1, n2⟩, n3⟩, n4⟩ := hy'
          have m1 : ((k : Int) == 8) = false := by simp; omega
          have m2 : ((k : Int) == 13) = false := by simp; omega
          have m3 : ((k : Int) == 18) = false := by simp; omega
          have m4 : ((k : Int) == 23) = false := by simp; omega
          clear n1 n2 n3 n4 hy
          rcases hex_cases s[k].toNat with ⟨hlo, hhi⟩ | ⟨hlo, hhi⟩ | ⟨hlo, hhi⟩ | hlo | ⟨hlo, hhi⟩ | ⟨hlo, hhi⟩ | hlo
          · have HG : Hid (okb s k = true) := by show okb s k = true; rw [HE.out]; exact hexB_yes _ (by omega)
            have d48 : decide ((48 : Int) ≤ (s[k].toNat : Int)) = true := decide_eq_true (by omega)
            have d97 : decide ((97 : Int) ≤ (s[k].toNat : Int)) = false := decide_eq_false (by omega)
            have d65 : decide ((65 : Int) ≤ (s[k].toNat : Int)) = false := decide_eq_false (by omega)
            have d57 : decide ((s[k].toNat : Int) ≤ (57 : Int)) = true := decide_eq_true (by omega)
            have d102 : decide ((s[k].toNat : Int) ≤ (102 : Int)) = true := decide_eq_true (by omega)
            have d70 : decide ((s[k].toNat : Int) ≤ (70 : Int)) = true := decide_eq_true (by omega)
            go_wp2
            go_round
            case rel => exact ⟨k + 1, by omega, by go_num, step_ok s k ha.out HG.out⟩
            case measure => simp [intOf]; omega
          · have HG : Hid (okb s k = true) := by show okb s k = true; rw [HE.out]; exact hexB_yes _ (by omega)
            have d48 : decide ((48 : Int) ≤ (s[k].toNat : Int)) = true := decide_eq_true (by omega)
            have d97 : decide ((97 : Int) ≤ (s[k].toNat : Int)) = true := decide_eq_true (by omega)
            have d65 : decide ((65 : Int) ≤ (s[k].toNat : Int)) = true := decide_eq_true (by omega)
            have d57 : decide ((s[k].toNat : Int) ≤ (57 : Int)) = false := decide_eq_false (by omega)
            have d102 : decide ((s[k].toNat : Int) ≤ (102 : Int)) = true := decide_eq_true (by omega)
            have d70 : decide ((s[k].toNat : Int) ≤ (70 : Int)) = false := decide_eq_false (by omega)
            go_wp2
            go_round
            case rel => exact ⟨k + 1, by omega, by go_num, step_ok s k ha.out HG.out⟩
            case measure => simp [intOf]; omega
          · have HG : Hid (okb s k = true) := by show okb s k = true; rw [HE.out]; exact hexB_yes _ (by omega)
            have d48 : decide ((48 : Int) ≤ (s[k].toNat : Int)) = true := decide_eq_true (by omega)
            have d97 : decide ((97 : Int) ≤ (s[k].toNat : Int)) = false := decide_eq_false (by omega)
            have d65 : decide ((65 : Int) ≤ (s[k].toNat : Int)) = true := decide_eq_true (by omega)
            have d57 : decide ((s[k].toNat : Int) ≤ (57 : Int)) = false := decide_eq_false (by omega)
            have d102 : decide ((s[k].toNat : Int) ≤ (102 : Int)) = true := decide_eq_true (by omega)
            have d70 : decide ((s[k].toNat : Int) ≤ (70 : Int)) = true := decide_eq_true (by omega)
            go_wp2
            go_round
            case rel => exact ⟨k + 1, by omega, by go_num, step_ok s k ha.out HG.out⟩
            case measure => simp [intOf]; omega
          · have HG : Hid (okb s k = false) := by show okb s k = false; rw [HE.out]; exact hexB_no _ (by omega) (by omega) (by omega)
            have d48 : decide ((48 : Int) ≤ (s[k].toNat : Int)) = false := decide_eq_false (by omega)
            have d97 : decide ((97 : Int) ≤ (s[k].toNat : Int)) = false := decide_eq_false (by omega)
            have d65 : decide ((65 : Int) ≤ (s[k].toNat : Int)) = false := decide_eq_false (by omega)
            have d57 : decide ((s[k].toNat : Int) ≤ (57 : Int)) = true := decide_eq_true (by omega)
            have d102 : decide ((s[k].toNat : Int) ≤ (102 : Int)) = true := decide_eq_true (by omega)
            have d70 : decide ((s[k].toNat : Int) ≤ (70 : Int)) = true := decide_eq_true (by omega)
            go_wp2
            go_ret
            exact ⟨ret_bool (uok_bad s _ hlt HG.out).symm, rfl⟩
          · have HG : Hid (okb s k = false) := by show okb s k = false; rw [HE.out]; exact hexB_no _ (by omega) (by omega) (by omega)
            have d48 : decide ((48 : Int) ≤ (s[k].toNat : Int)) = true := decide_eq_true (by omega)
            have d97 : decide ((97 : Int) ≤ (s[k].toNat : Int)) = false := decide_eq_false (by omega)
            have d65 : decide ((65 : Int) ≤ (s[k].toNat : Int)) = false := decide_eq_false (by omega)
            have d57 : decide ((s[k].toNat : Int) ≤ (57 : Int)) = false := decide_eq_false (by omega)
            have d102 : decide ((s[k].toNat : Int) ≤ (102 : Int)) = true := decide_eq_true (by omega)
            have d70 : decide ((s[k].toNat : Int) ≤ (70 : Int)) = true := decide_eq_true (by omega)
            go_wp2
            go_ret
            exact ⟨ret_bool (uok_bad s _ hlt HG.out).symm, rfl⟩
          · have HG : Hid (okb s k = false) := by show okb s k = false; rw [HE.out]; exact hexB_no _ (by omega) (by omega) (by omega)
            have d48 : decide ((48 : Int) ≤ (s[k].toNat : Int)) = true := decide_eq_true (by omega)
            have d97 : decide ((97 : Int) ≤ (s[k].toNat : Int)) = false := decide_eq_false (by omega)
            have d65 : decide ((65 : Int) ≤ (s[k].toNat : Int)) = true := decide_eq_true (by omega)
            have d57 : decide ((s[k].toNat : Int) ≤ (57 : Int)) = false := decide_eq_false (by omega)
            have d102 : decide ((s[k].toNat : Int) ≤ (102 : Int)) = true := decide_eq_true (by omega)
            have d70 : decide ((s[k].toNat : Int) ≤ (70 : Int)) = false := decide_eq_false (by omega)
            go_wp2
            go_ret
            exact ⟨ret_bool (uok_bad s _ hlt HG.out).symm, rfl⟩
          · have HG : Hid (okb s k = false) := by show okb s k = false; rw [HE.out]; exact hexB_no _ (by omega) (by omega) (by omega)
            have d48 : decide ((48 : Int) ≤ (s[k].toNat : Int)) = true := decide_eq_true (by omega)
            have d97 : decide ((97 : Int) ≤ (s[k].toNat : Int)) = true := decide_eq_true (by omega)
            have d65 : decide ((65 : Int) ≤ (s[k].toNat : Int)) = true := decide_eq_true (by omega)
            have d57 : decide ((s[k].toNat : Int) ≤ (57 : Int)) = false := decide_eq_false (by omega)
            have d102 : decide ((s[k].toNat : Int) ≤ (102 : Int)) = false := decide_eq_false (by omega)
            have d70 : decide ((s[k].toNat : Int) ≤ (70 : Int)) = false := decide_eq_false (by omega)
            go_wp2
            go_ret
            exact ⟨ret_bool (uok_bad s _ hlt HG.out).symm, rfl⟩
      · go_wp2
        go_ret
        exact ⟨ret_bool (uok_good s h36 (fun j hj => ha.out j (by omega))).symm, rfl⟩
  · have h36' : ((s.size : Int) != 36) = true := by simp; omega
    go_enter Try.func11, Try.ntmps11
    go_wp2
    go_ret
    exact ⟨ret_bool (uok_size s h36).symm, rfl⟩
end Go.Proofs.Qxb6600663a
