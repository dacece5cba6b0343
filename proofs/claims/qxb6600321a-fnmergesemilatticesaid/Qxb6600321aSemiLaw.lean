/-
  THE WALK of the law FnMergeSemilattice. What the call has made so far is carried as ONE list of vectors, each with the list that it reads as.
-/
import Derived.Test.Qxb6600321aClone
import Derived.Test.Qxb6600321aMerge
import Derived.Test.Qxb6600321aSmall
namespace Go.Proofs.Qxb6600321a
open Go.RowKit

/-- Each vector of the list reads as its list of numbers, none below 0, not too many; below w0's blocks nothing has turned. -/
def St (w0 w : World) (L : List (Value × List Int)) : Prop :=
  (∀ p ∈ L, Vec w p.1 p.2 ∧ (∀ i, 0 ≤ at0 p.2 i) ∧ p.2.length ≤ 131072) ∧ Below w0.heap.size w0 w

theorem St.on {w0 w w' : World} {L : List (Value × List Int)} (h : St w0 w L) (hb : Below w.heap.size w w') : St w0 w' L :=
  ⟨fun p hp => ⟨(h.1 p hp).1.on hb, (h.1 p hp).2⟩, h.2.trans (hb.mono h.2.size)⟩

theorem St.add {w0 w : World} {L : List (Value × List Int)} (h : St w0 w L) {v : Value} {zs : List Int} (hv : Vec w v zs) (hp : ∀ i, 0 ≤ at0 zs i) (hl : zs.length ≤ 131072) : St w0 w ((v, zs) :: L) := by
  refine ⟨fun p hp' => ?_, h.2⟩
  rcases List.mem_cons.1 hp' with rfl | hm
  · exact ⟨hv, hp, hl⟩
  · exact h.1 p hm

theorem clone_st {w0 w : World} {L : List (Value × List Int)} (h : St w0 w L) {v : Value} {zs : List Int} (hv : (v, zs) ∈ L) :
    Calls Try.prog 12 #[v] w fun e w' => ∃ a c, e = .returned (.slice a zs.length c) ∧ St w0 w' ((.slice a zs.length c, zs) :: L) := by
  obtain ⟨g, hp, hl⟩ := h.1 _ hv
  exact (clone_any v zs w g hl).mono fun e w' ⟨a, c, he, hv', hb⟩ => ⟨a, c, he, (h.on hb).add hv' hp hl⟩

theorem merge_st {w0 w : World} {L : List (Value × List Int)} (h : St w0 w L) {v1 v2 : Value} {za zb : List Int} (h1 : (v1, za) ∈ L) (h2 : (v2, zb) ∈ L) :
    Calls Try.prog 13 #[v1, v2] w fun e w' => ∃ a c, e = .returned (.slice a (mrg za zb).length c) ∧ St w0 w' ((.slice a (mrg za zb).length c, mrg za zb) :: L) := by
  obtain ⟨g1, hp1, hl1⟩ := h.1 _ h1
  obtain ⟨g2, hp2, hl2⟩ := h.1 _ h2
  exact (lawMerge_any v1 v2 za zb w g1 g2 hl1 hl2 hp1).mono fun e w' ⟨a, c, he, hv', hb⟩ =>
    ⟨a, c, he, (h.on hb).add hv' (pos_mrg za zb hp1 hp2) (by rw [mrg_length]; simp only at hl1 hl2; omega)⟩

theorem eq_st {w0 w : World} {L : List (Value × List Int)} (h : St w0 w L) {v1 v2 : Value} {za zb : List Int} (h1 : (v1, za) ∈ L) (h2 : (v2, zb) ∈ L) (he : (∀ i, 0 ≤ at0 za i) → (∀ i, 0 ≤ at0 zb i) → za = zb) :
    Calls Try.prog 19 #[v1, v2] w fun e w' => e = .returned (.bool true) ∧ St w0 w' L := by
  obtain ⟨g1, hp1, hl1⟩ := h.1 _ h1
  obtain ⟨g2, hp2, _⟩ := h.1 _ h2
  obtain rfl := he hp1 hp2
  exact (eq_any v1 v2 za w g1 g2 hl1).mono fun e w' ⟨he, hb⟩ => ⟨he, h.on hb⟩

set_option maxHeartbeats 400000 in
/-- Beyond the law's own bound on the lengths: true at once. -/
theorem semi_long (a0 a1 a2 : Option Addr) (n0 n1 n2 c0 c1 c2 : Nat) (w : World) (h0 : n0 ≤ maxLen) (h1 : n1 ≤ maxLen) (h2 : n2 ≤ maxLen) (h : 131072 < n0 + n1 + n2) :
    Calls Try.prog 5 #[.slice a0 n0 c0, .slice a1 n1 c1, .slice a2 n2 c2] w fun e w' => e = .returned (.bool true) ∧ Below w.heap.size w w' := by
  have H0 : Hid (n0 ≤ maxLen) := h0
  have H1 : Hid (n1 ≤ maxLen) := h1
  have H2 : Hid (n2 ≤ maxLen) := h2
  unfold maxLen at h0 h1 h2
  rcases (show 131072 < n0 ∨ (n0 ≤ 131072 ∧ 131072 < n1) ∨ (n0 ≤ 131072 ∧ n1 ≤ 131072 ∧ 131072 < n2) ∨ (n0 ≤ 131072 ∧ n1 ≤ 131072 ∧ n2 ≤ 131072) by omega) with g | ⟨g, g'⟩ | ⟨g, g', g''⟩ | ⟨g, g', g''⟩
  all_goals
    go_enter Try.func5, Try.ntmps5
    go_wp2_with (go_at_call 18; go_must (refine (bytes3 _ _ _ _ _ _ _ _ _ _ H0.out H1.out H2.out).mono ?_; rintro e w' ⟨⟨b, rfl⟩, rfl⟩))
    all_goals
      go_ret
      exact ⟨rfl, Below.refl _ _⟩

set_option maxHeartbeats 2000000 in
theorem semi_core (a0 a1 a2 : Option Addr) (Z0 Z1 Z2 : List Int) (c0 c1 c2 : Nat) (w : World)
    (hs : St w w [(.slice a0 Z0.length c0, Z0), (.slice a1 Z1.length c1, Z1), (.slice a2 Z2.length c2, Z2), (.slice none 0 0, [])]) (h : Z0.length + Z1.length + Z2.length ≤ 131072) :
    Calls Try.prog 5 #[.slice a0 Z0.length c0, .slice a1 Z1.length c1, .slice a2 Z2.length c2] w fun e w' => e = .returned (.bool true) ∧ Below w.heap.size w w' := by
  have H0 : Hid (Z0.length ≤ maxLen) := by show _ ≤ maxLen; unfold maxLen; omega
  have H1 : Hid (Z1.length ≤ maxLen) := by show _ ≤ maxLen; unfold maxLen; omega
  have H2 : Hid (Z2.length ≤ maxLen) := by show _ ≤ maxLen; unfold maxLen; omega
  have hl0 : Z0.length ≤ 131072 := by omega
  have hl1 : Z1.length ≤ 131072 := by omega
  have hl2 : Z2.length ≤ 131072 := by omega
  go_enter Try.func5, Try.ntmps5
  go_wp2_with (first
    | (go_at_call 18; go_must (refine (bytes3 _ _ _ _ _ _ _ _ _ _ H0.out H1.out H2.out).mono ?_; rintro e w' ⟨⟨b, rfl⟩, rfl⟩))
    | (go_at_call 12; go_must (refine (clone_st hs (by repeat (first | exact List.mem_cons_self | apply List.mem_cons_of_mem))).mono ?_; rintro e w1 ⟨a, c, rfl, hn⟩; clear hs; have hs := hn; clear hn))
    | (go_at_call 13; go_must (refine (merge_st hs (by repeat (first | exact List.mem_cons_self | apply List.mem_cons_of_mem)) (by repeat (first | exact List.mem_cons_self | apply List.mem_cons_of_mem))).mono ?_; rintro e w1 ⟨a, c, rfl, hn⟩; clear hs; have hs := hn; clear hn))
    | (go_at_call 19; go_must (refine (eq_st hs (by repeat (first | exact List.mem_cons_self | apply List.mem_cons_of_mem)) (by repeat (first | exact List.mem_cons_self | apply List.mem_cons_of_mem)) (by intro p1 p2; first | exact mrg_comm _ _ | exact mrg_assoc _ _ _ | exact mrg_self _ | exact mrg_nil _ p2 | exact nil_mrg _ p2)).mono ?_; rintro e w1 ⟨rfl, hn⟩; clear hs; have hs := hn; clear hn)))
  all_goals
    go_ret
    exact ⟨rfl, hs.2⟩
end Go.Proofs.Qxb6600321a
