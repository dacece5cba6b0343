/-
  PLAIN FACTS on an Outcome's text, byte by byte, for the walk of its reader.
-/
import Derived.Test.Qxb6600155aDoorParse
namespace Go.Proofs.Qxb6600155aDoor
open Go

def ohead : ByteArray := ⟨#[79, 117, 116, 99, 111, 109, 101, 40]⟩
def olen (n : Nat) : Nat := (dig3 n).length
def odig (n k : Nat) : Nat := ((dig3 n).getD k 48).toNat - 48

theorem olen_b (n : Nat) : 1 ≤ olen n ∧ olen n ≤ 3 := by
  unfold olen dig3
  split
  · simp
  · split <;> simp

theorem odig_all : ∀ n : Fin 256, (1 < olen n.val → odig n.val 0 ≠ 0) ∧ pval (odig n.val) (olen n.val) = n.val ∧
    (∀ k : Fin 3, (k.val < olen n.val → ((dig3 n.val).getD k.val 48).toNat = 48 + odig n.val k.val) ∧ odig n.val k.val ≤ 9) := by decide +kernel

theorem odig_le (n k : Nat) (h : n < 256) : odig n k ≤ 9 := by
  by_cases hk : k < 3
  · exact ((odig_all ⟨n, h⟩).2.2 ⟨k, hk⟩).2
  · have := (olen_b n).2
    unfold odig
    rw [List.getD_eq_getElem?_getD, List.getElem?_eq_none (by unfold olen at this; omega)]
    decide

theorem otext_big (n : Nat) (h : 3 ≤ n) : otext n = [79, 117, 116, 99, 111, 109, 101, 40] ++ dig3 n ++ [41] := by
  unfold otext
  rw [if_neg (by omega), if_neg (by omega), if_neg (by omega)]

theorem ostr_size (n : Nat) : (ostr n).size = (otext n).length := by
  show (otext n).toArray.size = _
  simp

theorem ostr_get (n k : Nat) (h : k < (ostr n).size) : (ostr n)[k] = (otext n)[k]'(by rw [← ostr_size]; exact h) := rfl

theorem ostr_size_big (n : Nat) (h : 3 ≤ n) : (ostr n).size = 8 + olen n + 1 := by
  rw [ostr_size, otext_big n h]
  simp only [olen, List.length_append, List.length_cons, List.length_nil]

theorem ostr_head (n : Nat) (h : 3 ≤ n) (k : Nat) (hk : k < 8) (h1 : k < (ostr n).size) (h2 : k < ohead.size) : (ostr n)[k] = ohead[k] := by
  rw [ostr_get]
  have e : (otext n)[k]? = ([79, 117, 116, 99, 111, 109, 101, 40] : List UInt8)[k]? := by
    rw [otext_big n h, List.append_assoc, List.getElem?_append_left (by simpa using hk)]
  have e2 : ([79, 117, 116, 99, 111, 109, 101, 40] : List UInt8)[k]? = some (ohead[k]) := by
    rw [List.getElem?_eq_getElem (by simpa using hk)]; rfl
  rw [e2] at e
  exact (List.getElem?_eq_some_iff.1 e).2

theorem ostr_last (n : Nat) (h : 3 ≤ n) (h1 : 8 + olen n < (ostr n).size) : (ostr n)[8 + olen n] = 41 := by
  rw [ostr_get]
  have e : (otext n)[8 + olen n]? = some 41 := by
    have el : ([79, 117, 116, 99, 111, 109, 101, 40] ++ dig3 n : List UInt8).length = 8 + olen n := by
      simp only [olen, List.length_append, List.length_cons, List.length_nil]
    rw [otext_big n h, List.getElem?_append_right (by rw [el]; exact Nat.le_refl _), el, Nat.sub_self]
    rfl
  exact (List.getElem?_eq_some_iff.1 e).2

theorem ostr_dig (n : Nat) (h : 3 ≤ n) (hn : n < 256) (k : Nat) (hk : k < olen n) (h1 : k < ((ostr n).extract 8 (8 + olen n)).size) : (((ostr n).extract 8 (8 + olen n))[k]).toNat = 48 + odig n k := by
  have hsz := ostr_size_big n h
  rw [ByteArray.getElem_extract, ostr_get]
  have e : (otext n)[8 + k]? = (dig3 n)[k]? := by
    rw [otext_big n h, List.append_assoc, List.getElem?_append_right (by simp), List.getElem?_append_left (by simpa [olen] using hk)]
    simp
  have hk3 : k < 3 := Nat.lt_of_lt_of_le hk (olen_b n).2
  have e3 := ((odig_all ⟨n, hn⟩).2.2 ⟨k, hk3⟩).1 hk
  rw [List.getElem?_eq_getElem (l := dig3 n) (by unfold olen at hk; exact hk)] at e
  rw [(List.getElem?_eq_some_iff.1 e).2, ← e3]
  congr 1
  rw [List.getD_eq_getElem?_getD, List.getElem?_eq_getElem (by unfold olen at hk; exact hk)]
  rfl

theorem otext_ne (n : Nat) (h : 3 ≤ n) (l : List UInt8) (hl : l.head? ≠ some 79) : (otext n == l) = false := by
  rw [beq_eq_false_iff_ne]
  rintro rfl
  apply hl
  rw [otext_big n h]
  rfl
end Go.Proofs.Qxb6600155aDoor
