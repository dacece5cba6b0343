/-
  THE WALKS of (Vector).Merge and lawMerge.
-/
import Derived.Test.Qxb6600321aMem
namespace Go.Proofs.Qxb6600321a
open Go.RowKit

theorem size26 : (Try.prog.info? 26).map (·.size) = some 1 := by kernel_rfl

theorem copied {w' : World} {G N : Nat} {za : List Int} (zb : List Int) (hlen : za.length ≤ N)
    (h : w'.heap[G]? = some (.cells (splice (List.replicate N (Value.int .u64 0)) 0 (za.map (Value.int .u64))).toArray 26 (0, 0))) : Blk w' G (upto za zb N 0) := by
  rw [upto_zero, ← splice_zeros za N hlen]
  unfold Blk
  rw [h]
  simp [splice]

theorem add_at (b o j : Nat) : (⟨b, o, none⟩ : Addr).add j = ⟨b, o + j, none⟩ := by
  unfold Addr.add
  by_cases h : j = 0
  · subst h; simp
  · simp [h]

theorem src_cells {w w1 : World} {a : Option Addr} {n : Nat} {za : List Int} {G : Nat} (hn : za.length = n) (hb : Below w.heap.size w w1)
    (hc : 0 < n → ∃ b o, a = some ⟨b, o, none⟩ ∧ b < w.heap.size ∧ ∀ i, i < n → w.cell? ⟨b, o + i, none⟩ = some (.int .u64 (at0 za i))) :
    0 < (za.map (Value.int .u64)).length → (some ⟨G, 0, none⟩ : Option Addr) = some ⟨G, 0, none⟩ ∧ ∃ ad, a = some ad ∧ ∀ (j : Nat) v, (za.map (Value.int .u64))[j]? = some v → w1.cell? (ad.add j) = some v := by
  intro h
  obtain ⟨b, o, rfl, hlt, hcs⟩ := hc (by simpa [hn] using h)
  refine ⟨rfl, _, rfl, fun j v hj => ?_⟩
  have hjn : j < za.length := by
    rcases Nat.lt_or_ge j za.length with h' | h'
    · exact h'
    · rw [List.getElem?_eq_none (by simpa using h')] at hj; cases hj
  rw [List.getElem?_map, at0_lt za j hjn] at hj
  simp only [Option.map_some, Option.some.injEq] at hj
  subst hj
  rw [add_at]
  exact (hb.cell (p := ⟨b, o + j, none⟩) hlt).trans (hcs j (by omega))

set_option maxHeartbeats 1000000 in
theorem merge_core (a1 a2 : Option Addr) (n1 n2 c1 c2 N : Nat) (za zb : List Int) (w : World) (h1 : za.length = n1) (h2 : zb.length = n2) (hl1 : n1 ≤ 131072) (hl2 : n2 ≤ 131072)
    (hc1 : 0 < n1 → ∃ b o, a1 = some ⟨b, o, none⟩ ∧ b < w.heap.size ∧ ∀ i, i < n1 → w.cell? ⟨b, o + i, none⟩ = some (.int .u64 (at0 za i)))
    (hc2 : 0 < n2 → ∃ b o, a2 = some ⟨b, o, none⟩ ∧ b < w.heap.size ∧ ∀ i, i < n2 → w.cell? ⟨b, o + i, none⟩ = some (.int .u64 (at0 zb i)))
    (hN : (n1 < n2 ∧ N = n2) ∨ (¬ n1 < n2 ∧ N = n1)) (hpos : ∀ i, 0 ≤ at0 za i) :
    Calls Try.prog 16 #[.slice a1 n1 c1, .slice a2 n2 c2] w fun e w' => e = .returned (.slice (some ⟨w.heap.size, 0, none⟩) N N) ∧ Blk w' w.heap.size (mrg za zb) ∧ Below w.heap.size w w' := by
  obtain ⟨i0, hi, hz0, hz1, hz2⟩ := info_parts info26
  have H1 : Hid _ := h1
  have H2 : Hid _ := h2
  have HC1 : Hid _ := hc1
  have HC2 : Hid _ := hc2
  have HP : Hid _ := hpos
  clear h1 h2 hc1 hc2 hpos
  rcases hN with ⟨hN, hNN⟩ | ⟨hN, hNN⟩ <;> subst hNN
  · go_enter Try.func16, Try.ntmps16
    go_wp2_with (at_make; go_must (refine wpList_make_full _ rfl _ _ 29 rfl w.heap.size 26 i0 (.int .u64 0) 1 Try.underlying29 hi hz0 hz1 .i64 .i64 _ _ N rfl rfl rfl rfl (by rw [hz2]; omega) (by unfold maxLen; omega) (Nat.le_refl _) ?_))
    intro w1 hown hgrow
    have hb1 : Hid (Blk w1 w.heap.size (List.replicate N 0)) := blk_made hown
    have hbel1 : Below w.heap.size w w1 := (Below.refl _ _).grown hgrow (Nat.le_refl _) (fun k h => by cases h)
    clear hown hgrow
    have hl : za.length ≤ N := by have := H1.out; omega
    have HL : Hid _ := hl
    clear hl
    go_wp2_with (refine wpList_copy_splice rfl (.tmp 14) (.tmp 15) 29 29 rfl 26 Try.underlying29 size26 (some ⟨w.heap.size, 0, none⟩) a1 N N n1 c1 rfl rfl w.heap.size 0 ((List.replicate N (0 : Int)).map (Value.int .u64)) 26 hb1.out (za.map (Value.int .u64)) (by rw [List.length_map, H1.out]; simp only [Nat.min_def]; split <;> omega) (src_cells H1.out hbel1 HC1.out) (by have := HL.out; simp; omega) (ints_oneCell _ _) w.heap.size w hbel1 (Nat.le_refl _) ?_)
    intro w2 hb2 hbel2
    have hB0 : Hid (Blk w2 w.heap.size (upto za zb N 0)) := copied zb HL.out hb2.out
    clear hb2 hb1 hbel1
    go_wp2
    go_loopw [19] (fun i wr => ∃ k : Nat, k ≤ N ∧ i = .int .i64 k ∧ Hid (Blk wr w.heap.size (upto za zb N k)) ∧ Below w.heap.size w wr) (fun i _ => N - (intOf i).toNat)
    case atStart => exact ⟨0, Nat.zero_le _, rfl, hB0, hbel2⟩
    case round =>
      obtain ⟨k, hk, rfl, hB, hbel⟩ := hrel
      by_cases hlt : k < N
      · obtain ⟨b, o, rfl, hbl, hcs⟩ := HC2.out (by omega)
        have hsrc : wr.cell? ⟨b, o + k, none⟩ = some (.int .u64 (at0 zb k)) := (hbel.cell (p := ⟨b, o + k, none⟩) hbl).trans (hcs k hlt)
        have hdst := hB.out.cell k (by unfold upto; rw [tab_length]; omega)
        rw [at0_upto za zb N k (by omega)] at hdst
        have hfr := hB.out.free k
        clear hcs
        by_cases hm : at0 za k < at0 zb k
        all_goals
          go_wp2
          go_roundw
          case rel => exact ⟨k + 1, by omega, by go_num, by rw [← upto_step za zb N k _ rfl]; unfold mx; simp only [hm, if_true, if_false]; exact hB.out.set k _, hbel.setCell (Nat.le_refl _) _⟩
          case measure => simp [intOf]; omega
      · go_wp2
        go_ret
        refine ⟨rfl, ?_, hbel⟩
        have hB' := hB.out
        rw [upto_end za zb N k (by have := H1.out; have := H2.out; omega) (by have := H2.out; omega) HP.out] at hB'
        exact hB'
  · go_enter Try.func16, Try.ntmps16
    go_wp2_with (at_make; go_must (refine wpList_make_full _ rfl _ _ 29 rfl w.heap.size 26 i0 (.int .u64 0) 1 Try.underlying29 hi hz0 hz1 .i64 .i64 _ _ N rfl rfl rfl rfl (by rw [hz2]; omega) (by unfold maxLen; omega) (Nat.le_refl _) ?_))
    intro w1 hown hgrow
    have hb1 : Hid (Blk w1 w.heap.size (List.replicate N 0)) := blk_made hown
    have hbel1 : Below w.heap.size w w1 := (Below.refl _ _).grown hgrow (Nat.le_refl _) (fun k h => by cases h)
    clear hown hgrow
    have hl : za.length ≤ N := by have := H1.out; omega
    have HL : Hid _ := hl
    clear hl
    go_wp2_with (refine wpList_copy_splice rfl (.tmp 14) (.tmp 15) 29 29 rfl 26 Try.underlying29 size26 (some ⟨w.heap.size, 0, none⟩) a1 N N N c1 rfl rfl w.heap.size 0 ((List.replicate N (0 : Int)).map (Value.int .u64)) 26 hb1.out (za.map (Value.int .u64)) (by rw [List.length_map, H1.out]; simp only [Nat.min_def]; split <;> omega) (src_cells H1.out hbel1 HC1.out) (by have := HL.out; simp; omega) (ints_oneCell _ _) w.heap.size w hbel1 (Nat.le_refl _) ?_)
    intro w2 hb2 hbel2
    have hB0 : Hid (Blk w2 w.heap.size (upto za zb N 0)) := copied zb HL.out hb2.out
    clear hb2 hb1 hbel1
    go_wp2
    go_loopw [19] (fun i wr => ∃ k : Nat, k ≤ n2 ∧ i = .int .i64 k ∧ Hid (Blk wr w.heap.size (upto za zb N k)) ∧ Below w.heap.size w wr) (fun i _ => n2 - (intOf i).toNat)
    case atStart => exact ⟨0, Nat.zero_le _, rfl, hB0, hbel2⟩
    case round =>
      obtain ⟨k, hk, rfl, hB, hbel⟩ := hrel
      by_cases hlt : k < n2
      · obtain ⟨b, o, rfl, hbl, hcs⟩ := HC2.out (by omega)
        have hsrc : wr.cell? ⟨b, o + k, none⟩ = some (.int .u64 (at0 zb k)) := (hbel.cell (p := ⟨b, o + k, none⟩) hbl).trans (hcs k hlt)
        have hdst := hB.out.cell k (by unfold upto; rw [tab_length]; omega)
        rw [at0_upto za zb N k (by omega)] at hdst
        have hfr := hB.out.free k
        clear hcs
        by_cases hm : at0 za k < at0 zb k
        all_goals
          go_wp2
          go_roundw
          case rel => exact ⟨k + 1, by omega, by go_num, by rw [← upto_step za zb N k _ rfl]; unfold mx; simp only [hm, if_true, if_false]; exact hB.out.set k _, hbel.setCell (Nat.le_refl _) _⟩
          case measure => simp [intOf]; omega
      · go_wp2
        go_ret
        refine ⟨rfl, ?_, hbel⟩
        have hB' := hB.out
        rw [upto_end za zb N k (by have := H1.out; have := H2.out; omega) (by have := H2.out; omega) HP.out] at hB'
        exact hB'

/-- (Vector).Merge: a new vector that reads as the merge; nothing old has turned. -/
theorem merge_any (v1 v2 : Value) (za zb : List Int) (w : World) (h1 : Vec w v1 za) (h2 : Vec w v2 zb) (hl1 : za.length ≤ 131072) (hl2 : zb.length ≤ 131072) (hpos : ∀ i, 0 ≤ at0 za i) :
    Calls Try.prog 16 #[v1, v2] w fun e w' => ∃ a c, e = .returned (.slice a (mrg za zb).length c) ∧ Vec w' (.slice a (mrg za zb).length c) (mrg za zb) ∧ Below w.heap.size w w' := by
  obtain ⟨a1, c1, rfl, _, _, h1⟩ := h1
  obtain ⟨a2, c2, rfl, _, _, h2⟩ := h2
  refine (merge_core a1 a2 za.length zb.length c1 c2 (max za.length zb.length) za zb w rfl rfl hl1 hl2 h1 h2 (by omega) hpos).mono fun e w' ⟨he, hb, hbel⟩ => ?_
  refine ⟨_, _, ?_, Vec.ofBlk hb, hbel⟩
  rw [he, mrg_length]

set_option maxHeartbeats 400000 in
/-- lawMerge. -/
theorem lawMerge_any (v1 v2 : Value) (za zb : List Int) (w : World) (h1 : Vec w v1 za) (h2 : Vec w v2 zb) (hl1 : za.length ≤ 131072) (hl2 : zb.length ≤ 131072) (hpos : ∀ i, 0 ≤ at0 za i) :
    Calls Try.prog 13 #[v1, v2] w fun e w' => ∃ a c, e = .returned (.slice a (mrg za zb).length c) ∧ Vec w' (.slice a (mrg za zb).length c) (mrg za zb) ∧ Below w.heap.size w w' := by
  have H1 : Hid _ := h1
  have H2 : Hid _ := h2
  have HP : Hid _ := hpos
  clear h1 h2 hpos
  go_enter Try.func13, Try.ntmps13
  go_wp2_with (go_at_call 16; go_must (refine (merge_any v1 v2 za zb _ H1.out H2.out hl1 hl2 HP.out).mono ?_; rintro e w' ⟨a, c, rfl, hv, hb⟩))
  go_ret
  exact ⟨_, _, rfl, hv, hb⟩
end Go.Proofs.Qxb6600321a
