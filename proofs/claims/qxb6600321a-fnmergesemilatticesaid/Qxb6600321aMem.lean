/-
  MEMORY: a new row of integers that a call itself made ('Blk'); a vector as a slice value that reads as a list ('Vec').
-/
import Derived.Test.Qxb6600321aRows
import Derived.Test.Qxb6600321aPlain
import Derived.WalkKit
import Derived.WalkSpells
import Derived.WalkLawsBesides
import Derived.Laws.CopyOwn
namespace Go.Proofs.Qxb6600321a
open Go.RowKit

theorem info26 : (Try.prog.info? 26).map (fun i => (i.zero, i.size, i.bytes)) = some (some (.int .u64 0), 1, 8) := by kernel_rfl

/-- Block g is a row that holds just these integers. -/
def Blk (w : World) (g : Nat) (zs : List Int) : Prop := w.heap[g]? = some (.cells (zs.map (Value.int .u64)).toArray 26 (0, 0))

theorem at0_lt (l : List Int) (i : Nat) (h : i < l.length) : l[i]? = some (at0 l i) := by
  unfold at0
  rw [List.getElem?_eq_getElem h]; rfl

theorem Blk.cell {w : World} {g : Nat} {zs : List Int} (h : Blk w g zs) (i : Nat) (hi : i < zs.length) : w.cell? ⟨g, i, none⟩ = some (.int .u64 (at0 zs i)) := by
  rw [cell_of_row w g i _ 26 (0, 0) h]
  simp [at0_lt zs i hi]

theorem Blk.free {w : World} {g : Nat} {zs : List Int} (h : Blk w g zs) (i : Nat) : w.frozen? ⟨g, i, none⟩ = false := frozen_of_row w g i _ 26 h

theorem Blk.set {w : World} {g : Nat} {zs : List Int} (h : Blk w g zs) (k : Nat) (z : Int) : Blk (w.setCell ⟨g, k, none⟩ (.int .u64 z)) g (zs.set k z) := by
  unfold Blk
  rw [heap_setCell_same w g k _ 26 _ h]
  congr 2
  simp [List.map_set]

theorem Blk.lt {w : World} {g : Nat} {zs : List Int} (h : Blk w g zs) : g < w.heap.size := by
  unfold Blk at h
  rcases Nat.lt_or_ge g w.heap.size with h' | h'
  · exact h'
  · rw [Array.getElem?_eq_none h'] at h; cases h

theorem Blk.on {w w' : World} {g B : Nat} {zs : List Int} (h : Blk w g zs) (hb : Below B w w') (hg : g < B) : Blk w' g zs := by
  unfold Blk
  rw [hb.block g hg]; exact h

theorem blk_made {w : World} {base g n : Nat} (h : w.ownsRow base 26 1 (.slice (some ⟨g, 0, none⟩) n n) n (madeCells #[Value.int .u64 0] n).toList) : Blk w g (List.replicate n 0) := by
  obtain ⟨_, h'⟩ := h
  rcases h' with ⟨h', _⟩ | ⟨g', cap, cur, hv, _, hg, _, _, hsz, htk⟩
  · cases h'
  · simp only [Value.slice.injEq, Option.some.injEq, Addr.mk.injEq, and_true, true_and] at hv
    obtain ⟨rfl, rfl⟩ := hv
    have e : (madeCells #[Value.int .u64 0] n).toList = List.replicate n (Value.int .u64 0) := toList_madeCells_one _ _
    rw [e, List.take_of_length_le (by simp; omega)] at htk
    unfold Blk
    rw [hg]
    congr 2
    apply Array.ext'
    rw [htk]
    simp

/-- The slice value v reads, in w, as the list zs. -/
def Vec (w : World) (v : Value) (zs : List Int) : Prop :=
  ∃ (a : Option Addr) (cap : Nat), v = .slice a zs.length cap ∧ zs.length ≤ cap ∧ (a = none → cap = 0) ∧
    (0 < zs.length → ∃ b o, a = some ⟨b, o, none⟩ ∧ b < w.heap.size ∧ ∀ i, i < zs.length → w.cell? ⟨b, o + i, none⟩ = some (.int .u64 (at0 zs i)))

theorem Vec.on {w w' : World} {v : Value} {zs : List Int} (h : Vec w v zs) (hb : Below w.heap.size w w') : Vec w' v zs := by
  obtain ⟨a, cap, rfl, h1, h2, h3⟩ := h
  refine ⟨a, cap, rfl, h1, h2, fun hp => ?_⟩
  obtain ⟨b, o, rfl, hlt, hc⟩ := h3 hp
  exact ⟨b, o, rfl, Nat.lt_of_lt_of_le hlt hb.size, fun i hi => (hb.cell (p := ⟨b, o + i, none⟩) hlt).trans (hc i hi)⟩

theorem Vec.ofBlk {w : World} {g : Nat} {zs : List Int} (h : Blk w g zs) : Vec w (.slice (some ⟨g, 0, none⟩) zs.length zs.length) zs :=
  ⟨_, _, rfl, Nat.le_refl _, (fun e => by cases e), fun _ => ⟨g, 0, rfl, h.lt, fun i hi => by rw [Nat.zero_add]; exact h.cell i hi⟩⟩

theorem Vec.nil (w : World) : Vec w (.slice none 0 0) [] := ⟨none, 0, rfl, Nat.le_refl _, fun _ => rfl, fun h => absurd h (by simp)⟩
end Go.Proofs.Qxb6600321a
