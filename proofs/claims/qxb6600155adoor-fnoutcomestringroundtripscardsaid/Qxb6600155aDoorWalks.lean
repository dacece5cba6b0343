/-
  THE WALKS of this seat: (Outcome).String, and the law FnOutcomeStringInjective.
-/
import Derived.Test.Qxb6600155aDoorRows
import Derived.Test.Qxb6600155aDoorShelf
import Derived.Test.Qxb6600155aDoorPlain
import Derived.WalkKit
import Derived.WalkSpells
import Derived.WalkLawsBesides
import Derived.Lib.AppendIntMem
namespace Go.Proofs.Qxb6600155aDoor
open Go.RowKit Go.Shelf

/-- The library's table of powers of ten, as the row lists it. -/
def pow10Name : String := (Rows.fnOutcomeStringInjectiveRow.laid.getD 2 ("", .nil)).1

abbrev Tab (w : World) : Prop := Lib.TabIs Tryd.prog w pow10Name .u64 Lib.pow10Tab

theorem itoa_any (n : Nat) (h : n < 256) (w : World) (htab : Tab w) :
    Calls Tryd.prog 12 #[.int .i64 n] w fun e w' => e = .returned (.string ⟨(Lib.itoa (n : Int)).toArray⟩) ∧ Below w.heap.size w w' := by
  refine (Any.strconv_Itoa Tryd.laysM171 (n : Int) (by omega) (by omega) w htab).mono ?_
  rintro e w' ⟨rfl, k, os, rfl⟩
  exact ⟨rfl, Lib.below_grow _ w (Nat.le_refl _) k os⟩

set_option maxHeartbeats 400000 in
theorem string_any (n : Nat) (h : n < 256) (w : World) (htab : Tab w) :
    Calls Tryd.prog 10 #[.int .u8 n] w fun e w' => e = .returned (.string (ostr n)) ∧ Below w.heap.size w w' := by
  by_cases h0 : n = 0
  · subst h0
    go_enter Tryd.func10, Tryd.ntmps10
    go_wp2
    go_ret
    exact ⟨rfl, Below.refl _ _⟩
  by_cases h1 : n = 1
  · subst h1
    go_enter Tryd.func10, Tryd.ntmps10
    go_wp2
    go_ret
    exact ⟨rfl, Below.refl _ _⟩
  by_cases h2 : n = 2
  · subst h2
    go_enter Tryd.func10, Tryd.ntmps10
    go_wp2
    go_ret
    exact ⟨rfl, Below.refl _ _⟩
  have H0 : ((n : Int) == 0) = false := by simp; omega
  have H1 : ((n : Int) == 1) = false := by simp; omega
  have H2 : ((n : Int) == 2) = false := by simp; omega
  have HB : Hid _ := ostr_big n (by omega) (by omega)
  have HL := itoa_len n (by omega)
  have HT : Hid (Tab w) := htab
  clear htab
  go_enter Tryd.func10, Tryd.ntmps10
  go_wp2_with (go_at_call 12; go_must (refine (itoa_any n h w HT.out).mono ?_; rintro e w' ⟨rfl, hb⟩))
  go_ret
  exact ⟨congrArg (fun s => Ending.returned (.string s)) HB.out, hb⟩

set_option maxHeartbeats 400000 in
theorem injective_any (a b : Nat) (ha : a < 256) (hb : b < 256) (w : World) (htab : Tab w) :
    Calls Tryd.prog 6 #[.int .u8 a, .int .u8 b] w fun e w' => e = .returned (.bool true) ∧ Below w.heap.size w w' := by
  by_cases hab : a = b
  · subst hab
    go_enter Tryd.func6, Tryd.ntmps6
    go_wp2
    go_ret
    exact ⟨rfl, Below.refl _ _⟩
  have HN := ostr_inj a b ha hb hab
  have H0 : ((a : Int) == b) = false := by simp; omega
  have HT : Hid (Tab w) := htab
  clear htab
  go_enter Tryd.func6, Tryd.ntmps6
  go_wp2_with (go_at_call 10; go_must (refine (string_any _ (by assumption) _ (by first | exact HT.out | exact Lib.tabBelow_of_tabIs HT.out _ (by assumption))).mono ?_; first | (have hold := hb1; rintro e w2 ⟨rfl, hb2⟩) | rintro e w1 ⟨rfl, hb1⟩))
  go_ret
  exact ⟨rfl, hb1.trans (hb2.mono hb1.size)⟩
end Go.Proofs.Qxb6600155aDoor
