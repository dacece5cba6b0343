/-
  THE WALK of the law FnMergeComponentwiseMax.
-/
import Derived.Test.Qxb6600321aClone
import Derived.Test.Qxb6600321aMerge
import Derived.Test.Qxb6600321aSmall
namespace Go.Proofs.Qxb6600321a
open Go.RowKit

set_option maxHeartbeats 400000 in
/-- Beyond the law's own bound on the lengths: true at once. -/
theorem max_long (a0 a1 : Option Addr) (n0 n1 c0 c1 : Nat) (w : World) (h0 : n0 ≤ maxLen) (h1 : n1 ≤ maxLen) (h : 131072 < n0 + n1) :
    Calls Try.prog 3 #[.slice a0 n0 c0, .slice a1 n1 c1] w fun e w' => e = .returned (.bool true) ∧ Below w.heap.size w w' := by
  have H0 : Hid (n0 ≤ maxLen) := h0
  have H1 : Hid (n1 ≤ maxLen) := h1
  unfold maxLen at h0 h1
  rcases (show 131072 < n0 ∨ (n0 ≤ 131072 ∧ 131072 < n1) ∨ (n0 ≤ 131072 ∧ n1 ≤ 131072) by omega) with g | ⟨g, g'⟩ | ⟨g, g'⟩
  all_goals
    go_enter Try.func3, Try.ntmps3
    go_wp2_with (go_at_call 11; go_must (refine (bytes2 _ _ _ _ _ _ _ H0.out H1.out).mono ?_; rintro e w' ⟨⟨b, rfl⟩, rfl⟩))
    all_goals
      go_ret
      exact ⟨rfl, Below.refl _ _⟩

theorem Vec.at {w : World} {a : Option Addr} {n c : Nat} {zs : List Int} (h : Vec w (.slice a n c) zs) (k : Nat) (hk : k < zs.length) :
    ∃ b o, a = some ⟨b, o, none⟩ ∧ w.cell? ⟨b, o + k, none⟩ = some (.int .u64 (at0 zs k)) := by
  obtain ⟨a', c', e, _, _, h3⟩ := h
  simp only [Value.slice.injEq] at e
  obtain ⟨rfl, rfl, rfl⟩ := e
  obtain ⟨b, o, rfl, _, hc⟩ := h3 (by omega)
  exact ⟨b, o, rfl, hc k hk⟩

set_option maxHeartbeats 1000000 in
theorem max_core (a0 a1 : Option Addr) (Z0 Z1 : List Int) (c0 c1 N : Nat) (w : World) (hv0 : Vec w (.slice a0 Z0.length c0) Z0) (hv1 : Vec w (.slice a1 Z1.length c1) Z1)
    (hp0 : ∀ i, 0 ≤ at0 Z0 i) (h : Z0.length + Z1.length ≤ 131072) (hN : (Z0.length < Z1.length ∧ N = Z1.length) ∨ (¬ Z0.length < Z1.length ∧ N = Z0.length)) :
    Calls Try.prog 3 #[.slice a0 Z0.length c0, .slice a1 Z1.length c1] w fun e w' => e = .returned (.bool true) ∧ Below w.heap.size w w' := by
  have hl0 : Z0.length ≤ 131072 := by omega
  have hl1 : Z1.length ≤ 131072 := by omega
  have H0 : Hid (Z0.length ≤ maxLen) := by show _ ≤ maxLen; unfold maxLen; omega
  have H1 : Hid (Z1.length ≤ maxLen) := by show _ ≤ maxLen; unfold maxLen; omega
  have HP : Hid _ := hp0
  have hm : (mrg Z0 Z1).length = N := by rw [mrg_length]; omega
  have HM : Hid _ := hm
  clear hp0 hm
  rcases hN with ⟨hN, hNN⟩ | ⟨hN, hNN⟩
  · have hm : (mrg Z0 Z1).length = Z1.length := by have := HM.out; omega
    have hmm : (((mrg Z0 Z1).length : Int) != (Z1.length : Int)) = false := by rw [hm]; simp
    have HMM : Hid _ := hm
    clear hm
    go_enter Try.func3, Try.ntmps3
    go_wp2_with (first
      | (go_at_call 11; go_must (refine (bytes2 _ _ _ _ _ _ _ H0.out H1.out).mono ?_; rintro e w' ⟨⟨b, rfl⟩, rfl⟩))
      | (go_at_call 12; go_must (refine (clone_any _ _ _ (by assumption) (by assumption)).mono ?_; first
          | (have hold := g0; rintro e w2 ⟨x1, q1, rfl, g1, hb2⟩; have g0' := g0.on hb2)
          | (rintro e w1 ⟨x0, q0, rfl, g0, hb1⟩; have k1 := hv1.on hb1)))
      | (go_at_call 13; go_must (refine (lawMerge_any _ _ Z0 Z1 _ (by assumption) (by assumption) hl0 hl1 HP.out).mono ?_; rintro e w3 ⟨xm, qm, rfl, gm, hb3⟩)))
    · go_ret
      exact ⟨rfl, Below.refl _ _⟩
    · have e0 := g0'.on hb3
      have e1 := g1.on hb3
      have HB : Hid _ := hb1.trans ((hb2.mono hb1.size).trans (hb3.mono (Nat.le_trans hb1.size hb2.size)))
      clear hold g0' g0 k1 hb1 hb2 hb3 g1 hv0 hv1
      go_loop [7] (fun i => ∃ k : Nat, k ≤ Z1.length ∧ i = .int .i64 k) (fun i => Z1.length - (intOf i).toNat)
      case atStart => exact ⟨0, Nat.zero_le _, rfl⟩
      case round =>
        obtain ⟨k, hk, rfl⟩ := hrel
        by_cases hlt : k < Z1.length
        · have hkm : k < (mrg Z0 Z1).length := by rw [HMM.out]; exact hlt
          obtain ⟨bm, om, rfl, hcm⟩ := gm.at k hkm
          rw [at0_mrg] at hcm
          by_cases hx : at0 Z0 k < at0 Z1 k
          all_goals
            unfold mx at hcm
            simp only [hx, if_true, if_false] at hcm
            go_wp2_with (go_at_call 14; go_must (refine (at_any _ _ _ _ (by assumption)).mono ?_; rintro e w4 ⟨rfl, rfl⟩))
            go_round
            case rel => exact ⟨k + 1, by omega, by go_num⟩
            case measure => simp [intOf]; omega
        · go_wp2
          go_ret
          exact ⟨rfl, HB.out⟩
  · have hm : (mrg Z0 Z1).length = Z0.length := by have := HM.out; omega
    have hmm : (((mrg Z0 Z1).length : Int) != (Z0.length : Int)) = false := by rw [hm]; simp
    have HMM : Hid _ := hm
    clear hm
    go_enter Try.func3, Try.ntmps3
    go_wp2_with (first
      | (go_at_call 11; go_must (refine (bytes2 _ _ _ _ _ _ _ H0.out H1.out).mono ?_; rintro e w' ⟨⟨b, rfl⟩, rfl⟩))
      | (go_at_call 12; go_must (refine (clone_any _ _ _ (by assumption) (by assumption)).mono ?_; first
          | (have hold := g0; rintro e w2 ⟨x1, q1, rfl, g1, hb2⟩; have g0' := g0.on hb2)
          | (rintro e w1 ⟨x0, q0, rfl, g0, hb1⟩; have k1 := hv1.on hb1)))
      | (go_at_call 13; go_must (refine (lawMerge_any _ _ Z0 Z1 _ (by assumption) (by assumption) hl0 hl1 HP.out).mono ?_; rintro e w3 ⟨xm, qm, rfl, gm, hb3⟩)))
    · go_ret
      exact ⟨rfl, Below.refl _ _⟩
    · have e0 := g0'.on hb3
      have e1 := g1.on hb3
      have HB : Hid _ := hb1.trans ((hb2.mono hb1.size).trans (hb3.mono (Nat.le_trans hb1.size hb2.size)))
      clear hold g0' g0 k1 hb1 hb2 hb3 g1 hv0 hv1
      go_loop [7] (fun i => ∃ k : Nat, k ≤ Z0.length ∧ i = .int .i64 k) (fun i => Z0.length - (intOf i).toNat)
      case atStart => exact ⟨0, Nat.zero_le _, rfl⟩
      case round =>
        obtain ⟨k, hk, rfl⟩ := hrel
        by_cases hlt : k < Z0.length
        · have hkm : k < (mrg Z0 Z1).length := by rw [HMM.out]; exact hlt
          obtain ⟨bm, om, rfl, hcm⟩ := gm.at k hkm
          rw [at0_mrg] at hcm
          by_cases hx : at0 Z0 k < at0 Z1 k
          all_goals
            unfold mx at hcm
            simp only [hx, if_true, if_false] at hcm
            go_wp2_with (go_at_call 14; go_must (refine (at_any _ _ _ _ (by assumption)).mono ?_; rintro e w4 ⟨rfl, rfl⟩))
            go_round
            case rel => exact ⟨k + 1, by omega, by go_num⟩
            case measure => simp [intOf]; omega
        · go_wp2
          go_ret
          exact ⟨rfl, HB.out⟩
end Go.Proofs.Qxb6600321a
