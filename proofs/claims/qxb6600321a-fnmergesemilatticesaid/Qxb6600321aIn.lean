/-
  FROM WHAT THE ROW's FRAME KNOWS OF A SLICE OF INTEGERS THAT CAME IN ('IsRow': the shell's own word) TO A VECTOR ('Vec').
-/
import Derived.Test.Qxb6600321aMem
import Derived.ProofKit
import Derived.OpenShut
namespace Go.Proofs.Qxb6600321a
open Go.RowKit

/-- WHAT THE WALK IS TOLD OF A SLICE OF INTEGERS THAT CAME IN: it is nil; or it leads to a row of 'cap' cells, the numbers 'zs' (the first 'len' are its elements, the rest its spare room), each fitting its kind. -/
def IsRow (k : IntKind) (w : World) (a : Option Addr) (len cap : Nat) (zs : List Int) : Prop :=
  (a = none ∧ len = 0 ∧ cap = 0 ∧ zs = []) ∨
  ∃ x, a = some x ∧ len ≤ cap ∧ cap ≤ maxLen ∧ zs.length = cap ∧ (∀ i, i < zs.length → w.cell? (x.add i) = some (.int k (zs.getD i 0))) ∧ ∀ n ∈ zs, (Lit.int k n).wf = true

theorem lt_of_cell {w : World} {x : Addr} {v : Value} (h : w.cell? x = some v) : x.block < w.heap.size := by
  rcases Nat.lt_or_ge x.block w.heap.size with h' | h'
  · exact h'
  · simp [World.cell?, Array.getElem?_eq_none h'] at h

/-- What came in, as a vector of its own length. -/
theorem vec_of_row {w : World} {a : Option Addr} {len cap : Nat} {zs : List Int} (h : IsRow .u64 w a len cap zs) :
    ∃ Z : List Int, len = Z.length ∧ len ≤ maxLen ∧ Vec w (.slice a Z.length cap) Z ∧ ∀ i, 0 ≤ at0 Z i := by
  rcases h with ⟨rfl, rfl, rfl, rfl⟩ | ⟨x, rfl, hl, hm, hz, hc, hw⟩
  · exact ⟨[], rfl, Nat.zero_le _, Vec.nil w, fun i => by rw [at0_past _ _ (by simp)]; exact Int.le_refl _⟩
  · have hlen : (zs.take len).length = len := by rw [List.length_take]; omega
    have hat : ∀ i, i < len → at0 (zs.take len) i = zs.getD i 0 := fun i hi => by
      unfold at0
      rw [List.getElem?_take, if_pos hi, List.getD_eq_getElem?_getD]
    refine ⟨zs.take len, hlen.symm, Nat.le_trans hl hm, ⟨some x, cap, rfl, by rw [hlen]; exact hl, (fun e => by cases e), fun hp => ?_⟩, fun i => ?_⟩
    · rw [hlen] at hp
      obtain ⟨b, o, rfl, hcs⟩ := ints_at hc (by omega)
      refine ⟨b, o, rfl, lt_of_cell (hcs 0 (by omega)), fun i hi => ?_⟩
      rw [hlen] at hi
      rw [hat i hi]
      exact hcs i (by omega)
    · by_cases hi : i < len
      · rw [hat i hi, List.getD_eq_getElem?_getD]
        exact (range_u64 hw i).1
      · rw [at0_past _ _ (by omega)]; exact Int.le_refl _
end Go.Proofs.Qxb6600321a
