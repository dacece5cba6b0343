/-
  THE WALK of zzUUIDModel.
-/
import Derived.Test.Qxb6600663aWalks
namespace Go.Proofs.Qxb6600663a
open Go.RowKit

set_option maxHeartbeats 4000000 in
theorem model_any (s : ByteArray) (w : World) :
    Calls Try.prog 12 #[.string s] w fun e w' => e = .returned (.bool (uok s)) ∧ w' = w := by
  go_enter Try.func12, Try.ntmps12
  go_wp2
  go_loop [3, 4] (fun p g => ∃ n : Nat, n ≤ 5 ∧ g = .int .i64 n ∧ p = .int .i64 (gend n) ∧ Hid (∀ j, j < gend n → okb s j = true)) (fun _ g => 5 - (intOf g).toNat)
  case atStart => exact ⟨0, Nat.zero_le _, rfl, rfl, fun j h => absurd h (by rw [gend_zero]; omega)⟩
  case round =>
    obtain ⟨n, hn, rfl, rfl, ha⟩ := hrel
    by_cases hlt : n < 5
    · have hgl := gend_lt n hlt
      have hgs : Hid (gbeg n + glen n = gend (n + 1)) := gend_succ n hlt
      have hgn : gend (n + 1) ≤ 36 := gend_le (n + 1) hlt
      have hln := glen_le n
      by_cases h0 : 0 < n
      · have hbg : Hid (gbeg n = gend n + 1) := gbeg_pos n h0
        by_cases hp : gend n < s.size
        · by_cases hc : s[gend n].toNat = 45
          · have hcc : (((s[gend n].toNat : Nat) : Int) != 45) = false := by simp; omega
            have HE : Hid (okb s (gend n) = true) := by show okb s (gend n) = true; rw [okb_hyp s _ hp (hyp_gend n hlt h0), hc]; rfl
            clear hc
            go_wp2_with (go_at_call 27; go_must (refine (group_any n hlt _).mono ?_; rintro e w' ⟨rfl, rfl⟩))
            go_loop [3, 6] (fun p k => ∃ q m : Nat, q ≤ glen n ∧ k = .int .i64 q ∧ p = .int .i64 m ∧ Hid (m = gbeg n + q) ∧ Hid (∀ j, j < m → okb s j = true)) (fun _ k => glen n - (intOf k).toNat)
            case atStart => exact ⟨0, gend n + 1, Nat.zero_le _, rfl, by go_num, by show gend n + 1 = gbeg n + 0; have := hbg.out; omega, step_ok s (gend n) ha.out HE.out⟩
            case round =>
              obtain ⟨q, m, hq, rfl, rfl, hm, hb⟩ := hrel
              by_cases hql : q < glen n
              · have hm36 : m < 36 := by have := hm.out; have := hgs.out; omega
                have hy : Hid (hyp m = false) := by show hyp m = false; rw [hm.out]; exact hyp_in n q hlt hql
                by_cases hms : m < s.size
                · by_cases hx : hexB s[m].toNat = true
                  · have HE : Hid (okb s m = true) := by show okb s m = true; rw [okb_hex s m hms hy.out]; exact hx
                    have HX : Hid _ := hx
                    clear hx
                    go_wp2_with (go_at_call 28; go_must (refine (hex_in _ HX.out _).mono ?_; rintro e w2 ⟨⟨r, rfl, hr⟩, rfl⟩))
                    go_round
                    case rel => exact ⟨q + 1, m + 1, by omega, by go_num, by go_num, by show m + 1 = gbeg n + (q + 1); rw [hm.out]; omega, step_ok s m hb.out HE.out⟩
                    case measure => simp [intOf]; omega
                  · have HE : Hid (okb s m = false) := by show okb s m = false; rw [okb_hex s m hms hy.out]; simpa using hx
                    have HX : Hid (hexB s[m].toNat = false) := by show hexB s[m].toNat = false; simpa using hx
                    clear hx
                    go_wp2_with (go_at_call 28; go_must (refine (hex_out _ HX.out _).mono ?_; rintro e w2 ⟨⟨r, rfl, hr⟩, rfl⟩))
                    go_ret
                    exact ⟨ret_bool (uok_bad s m hm36 HE.out).symm, rfl⟩
                · go_wp2
                  go_ret
                  exact ⟨ret_bool (uok_bad s m hm36 (okb_past s m (by omega))).symm, rfl⟩
              · have hmE : Hid (m = gend (n + 1)) := by show m = _; rw [hm.out, ← hgs.out]; omega
                go_wp2
                go_round
                case rel => exact ⟨n + 1, by omega, by go_num, by rw [← hmE.out], by rw [← hmE.out]; exact hb.out⟩
                case measure => simp [intOf]; omega
          · have hcc : (((s[gend n].toNat : Nat) : Int) != 45) = true := by simp; omega
            have HE : Hid (okb s (gend n) = false) := by show okb s (gend n) = false; rw [okb_hyp s _ hp (hyp_gend n hlt h0)]; simpa using hc
            clear hc
            go_wp2_with fail
            go_ret
            exact ⟨ret_bool (uok_bad s _ hgl HE.out).symm, rfl⟩
        · go_wp2_with fail
          go_ret
          exact ⟨ret_bool (uok_bad s _ hgl (okb_past s _ (by omega))).symm, rfl⟩
      · have hbg : Hid (gbeg n = gend n) := by obtain rfl : n = 0 := by omega
                                               rfl
        go_wp2_with (go_at_call 27; go_must (refine (group_any n hlt _).mono ?_; rintro e w' ⟨rfl, rfl⟩))
        go_loop [3, 6] (fun p k => ∃ q m : Nat, q ≤ glen n ∧ k = .int .i64 q ∧ p = .int .i64 m ∧ Hid (m = gbeg n + q) ∧ Hid (∀ j, j < m → okb s j = true)) (fun _ k => glen n - (intOf k).toNat)
        case atStart => exact ⟨0, gend n, Nat.zero_le _, rfl, rfl, by show gend n = gbeg n + 0; have := hbg.out; omega, ha.out⟩
        case round =>
          obtain ⟨q, m, hq, rfl, rfl, hm, hb⟩ := hrel
          by_cases hql : q < glen n
          · have hm36 : m < 36 := by have := hm.out; have := hgs.out; omega
            have hy : Hid (hyp m = false) := by show hyp m = false; rw [hm.out]; exact hyp_in n q hlt hql
            by_cases hms : m < s.size
            · by_cases hx : hexB s[m].toNat = true
              · have HE : Hid (okb s m = true) := by show okb s m = true; rw [okb_hex s m hms hy.out]; exact hx
                have HX : Hid _ := hx
                clear hx
                go_wp2_with (go_at_call 28; go_must (refine (hex_in _ HX.out _).mono ?_; rintro e w2 ⟨⟨r, rfl, hr⟩, rfl⟩))
                go_round
                case rel => exact ⟨q + 1, m + 1, by omega, by go_num, by go_num, by show m + 1 = gbeg n + (q + 1); rw [hm.out]; omega, step_ok s m hb.out HE.out⟩
                case measure => simp [intOf]; omega
              · have HE : Hid (okb s m = false) := by show okb s m = false; rw [okb_hex s m hms hy.out]; simpa using hx
                have HX : Hid (hexB s[m].toNat = false) := by show hexB s[m].toNat = false; simpa using hx
                clear hx
                go_wp2_with (go_at_call 28; go_must (refine (hex_out _ HX.out _).mono ?_; rintro e w2 ⟨⟨r, rfl, hr⟩, rfl⟩))
                go_ret
                exact ⟨ret_bool (uok_bad s m hm36 HE.out).symm, rfl⟩
            · go_wp2
              go_ret
              exact ⟨ret_bool (uok_bad s m hm36 (okb_past s m (by omega))).symm, rfl⟩
          · have hmE : Hid (m = gend (n + 1)) := by show m = _; rw [hm.out, ← hgs.out]; omega
            go_wp2
            go_round
            case rel => exact ⟨n + 1, by omega, by go_num, by rw [← hmE.out], by rw [← hmE.out]; exact hb.out⟩
            case measure => simp [intOf]; omega
    · obtain rfl : n = 5 := by omega
      by_cases h36 : s.size = 36
      · go_wp2
        go_ret
        exact ⟨ret_bool (by rw [uok_good s h36 (fun j hj => ha.out j hj)]; rfl), rfl⟩
      · have hq : (((gend 5 : Nat) : Int) == (s.size : Int)) = false := by rw [gend_five]; simp; omega
        go_wp2
        go_ret
        exact ⟨ret_bool (by rw [uok_size s h36]), rfl⟩
end Go.Proofs.Qxb6600663a
