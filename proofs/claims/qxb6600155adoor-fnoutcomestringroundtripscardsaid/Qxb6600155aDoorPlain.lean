/-
  PLAIN MATHEMATICS: an Outcome's text as a plain function, and that it can be read back. Nothing of the program in this file.
-/
import Derived.Lib.ItoaNum
import Derived.Laws.Strings
namespace Go.Proofs.Qxb6600155aDoor
open Go

/-- The decimal digits of a number below 1000. -/
def dig3 (u : Nat) : List UInt8 :=
  if u < 10 then [UInt8.ofNat (48 + u)]
  else if u < 100 then [UInt8.ofNat (48 + u / 10), UInt8.ofNat (48 + u % 10)]
  else [UInt8.ofNat (48 + u / 100), UInt8.ofNat (48 + u / 10 % 10), UInt8.ofNat (48 + u % 10)]

theorem decDigits_eq (u : Nat) (h : u < 1000) : Lib.decDigits u = dig3 u := by
  unfold dig3
  by_cases h1 : u < 10
  · rw [Lib.decDigits, dif_pos h1, if_pos h1]
  · rw [Lib.decDigits, dif_neg h1, if_neg h1]
    by_cases h2 : u < 100
    · rw [Lib.decDigits, dif_pos (by omega), if_pos h2]; rfl
    · rw [Lib.decDigits, dif_neg (by omega), if_neg h2, Lib.decDigits, dif_pos (by omega)]
      have e : u / 10 / 10 = u / 100 := by omega
      rw [e]; rfl

theorem itoa_eq (u : Nat) (h : u < 1000) : Lib.itoa (u : Int) = dig3 u := by
  unfold Lib.itoa
  rw [if_neg (by omega), ← decDigits_eq u h]; rfl

theorem itoa_len (u : Nat) (h : u < 1000) : (Lib.itoa (u : Int)).length ≤ 3 := by
  rw [itoa_eq u h]
  unfold dig3
  split
  · simp
  · split <;> simp

/-- An Outcome's text, as a list of bytes. -/
def otext (u : Nat) : List UInt8 :=
  if u = 0 then [117, 110, 100, 101, 99, 105, 100, 101, 100]
  else if u = 1 then [99, 111, 109, 109, 105, 116, 116, 101, 100]
  else if u = 2 then [97, 98, 111, 114, 116, 101, 100]
  else [79, 117, 116, 99, 111, 109, 101, 40] ++ dig3 u ++ [41]

/-- A reader that undoes 'otext' (it need not refuse anything). -/
def oread (l : List UInt8) : Nat :=
  match l with
  | [_, _, _, _, _, _, _, _, a, _] => a.toNat - 48
  | [_, _, _, _, _, _, _, _, a, b, _] => 10 * (a.toNat - 48) + (b.toNat - 48)
  | [_, _, _, _, _, _, _, _, a, b, c, _] => 100 * (a.toNat - 48) + (10 * (b.toNat - 48) + (c.toNat - 48))
  | [_, _, _, _, _, _, _] => 2
  | 117 :: _ => 0
  | _ => 1

theorem oread_otext : ∀ u : Fin 256, oread (otext u.val) = u.val := by decide +kernel

theorem otext_inj (a b : Nat) (ha : a < 256) (hb : b < 256) (h : otext a = otext b) : a = b := by
  have h1 := oread_otext ⟨a, ha⟩
  have h2 := oread_otext ⟨b, hb⟩
  simp only at h1 h2
  rw [← h1, h, h2]

/-- An Outcome's text, as Go's string. -/
def ostr (u : Nat) : ByteArray := ⟨(otext u).toArray⟩

theorem ostr_toList (u : Nat) : (ostr u).toList = otext u := by
  rw [ByteArray.toList_eq]; simp [ostr]

theorem ostr_inj (a b : Nat) (ha : a < 256) (hb : b < 256) (h : a ≠ b) : ((ostr a).toList == (ostr b).toList) = false := by
  rw [ostr_toList, ostr_toList, beq_eq_false_iff_ne]
  exact fun e => h (otext_inj a b ha hb e)

theorem ostr_0 : ostr 0 = ⟨#[117, 110, 100, 101, 99, 105, 100, 101, 100]⟩ := rfl
theorem ostr_1 : ostr 1 = ⟨#[99, 111, 109, 109, 105, 116, 116, 101, 100]⟩ := rfl
theorem ostr_2 : ostr 2 = ⟨#[97, 98, 111, 114, 116, 101, 100]⟩ := rfl
theorem ostr_big (u : Nat) (h : 3 ≤ u) (hu : u < 1000) : (⟨#[79, 117, 116, 99, 111, 109, 101, 40]⟩ ++ ⟨(Lib.itoa (u : Int)).toArray⟩ ++ ⟨#[41]⟩ : ByteArray) = ostr u := by
  rw [itoa_eq u hu]
  unfold ostr otext
  rw [if_neg (by omega), if_neg (by omega), if_neg (by omega)]
  apply ByteArray.ext
  simp [ByteArray.data_append]
end Go.Proofs.Qxb6600155aDoor
