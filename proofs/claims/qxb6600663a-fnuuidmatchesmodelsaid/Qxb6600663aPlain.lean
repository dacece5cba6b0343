/-
  PLAIN MATHEMATICS: the canonical text form of a UUID, byte by byte. Nothing of the program in this file.
-/
namespace Go.Proofs.Qxb6600663a

/-- A hexadecimal digit, of either case. -/
def hexB (c : Nat) : Bool := decide (48 ≤ c ∧ c ≤ 57) || decide (97 ≤ c ∧ c ≤ 102) || decide (65 ≤ c ∧ c ≤ 70)

/-- A hyphen's place. -/
def hyp (i : Nat) : Bool := i == 8 || i == 13 || i == 18 || i == 23

/-- Byte j is there, and is what its place asks. -/
def okb (s : ByteArray) (j : Nat) : Bool :=
  if h : j < s.size then (if hyp j then s[j].toNat == 45 else hexB s[j].toNat) else false

/-- The whole form. -/
def uok (s : ByteArray) : Bool := decide (s.size = 36) && (List.range 36).all (okb s)

theorem okb_hyp (s : ByteArray) (j : Nat) (h : j < s.size) (hj : hyp j = true) : okb s j = (s[j].toNat == 45) := by
  unfold okb; rw [dif_pos h, if_pos hj]
theorem okb_hex (s : ByteArray) (j : Nat) (h : j < s.size) (hj : hyp j = false) : okb s j = hexB s[j].toNat := by
  unfold okb; rw [dif_pos h, if_neg (by rw [hj]; decide)]
theorem okb_past (s : ByteArray) (j : Nat) (h : s.size ≤ j) : okb s j = false := by
  unfold okb; rw [dif_neg (by omega)]

theorem uok_bad (s : ByteArray) (j : Nat) (hj : j < 36) (h : okb s j = false) : uok s = false := by
  unfold uok
  have : (List.range 36).all (okb s) = false := by
    rw [List.all_eq_false]
    exact ⟨j, List.mem_range.2 hj, by rw [h]; decide⟩
  rw [this, Bool.and_false]
theorem uok_size (s : ByteArray) (h : s.size ≠ 36) : uok s = false := by
  unfold uok
  rw [decide_eq_false h, Bool.false_and]
theorem uok_good (s : ByteArray) (h : s.size = 36) (ha : ∀ j, j < 36 → okb s j = true) : uok s = true := by
  unfold uok
  rw [decide_eq_true h, Bool.true_and, List.all_eq_true]
  exact fun j hj => ha j (List.mem_range.1 hj)

theorem step_ok (s : ByteArray) (k : Nat) (ha : ∀ j, j < k → okb s j = true) (h : okb s k = true) : ∀ j, j < k + 1 → okb s j = true := by
  intro j hj
  rcases (show j = k ∨ j < k by omega) with rfl | h'
  · exact h
  · exact ha j h'

theorem step_ne (t : ByteArray) (c k : Nat) (hk : k < t.size) (ha : ∀ j (hj : j < t.size), j < k → (t[j]'hj).toNat ≠ c) (h : (t[k]'hk).toNat ≠ c) : ∀ j (hj : j < t.size), j < k + 1 → (t[j]'hj).toNat ≠ c := by
  intro j hj hjk
  rcases (show j = k ∨ j < k by omega) with rfl | h'
  · exact h
  · exact ha j hj h'

theorem hexB_no (c : Nat) (h : ¬ (48 ≤ c ∧ c ≤ 57)) (h' : ¬ (97 ≤ c ∧ c ≤ 102)) (h'' : ¬ (65 ≤ c ∧ c ≤ 70)) : hexB c = false := by
  unfold hexB
  rw [decide_eq_false h, decide_eq_false h', decide_eq_false h'']; rfl
theorem hexB_yes (c : Nat) (h : (48 ≤ c ∧ c ≤ 57) ∨ (97 ≤ c ∧ c ≤ 102) ∨ (65 ≤ c ∧ c ≤ 70)) : hexB c = true := by
  unfold hexB
  simp only [Bool.or_eq_true, decide_eq_true_eq]
  omega

/-- Where group g's reading ends (its hyphen not yet read, for the next). -/
def gend : Nat → Nat
  | 0 => 0
  | 1 => 8
  | 2 => 13
  | 3 => 18
  | 4 => 23
  | _ => 36
/-- How many digits group g has. -/
def glen : Nat → Nat
  | 0 => 8
  | 4 => 12
  | _ => 4
/-- Where group g's digits begin. -/
def gbeg (g : Nat) : Nat := if g = 0 then 0 else gend g + 1

theorem cases5 (g : Nat) (h : g < 5) : g = 0 ∨ g = 1 ∨ g = 2 ∨ g = 3 ∨ g = 4 := by omega
theorem gend_succ (g : Nat) (h : g < 5) : gbeg g + glen g = gend (g + 1) := by
  rcases cases5 g h with rfl | rfl | rfl | rfl | rfl <;> rfl
theorem gend_le (g : Nat) (h : g ≤ 5) : gend g ≤ 36 := by
  rcases (show g = 5 ∨ g < 5 by omega) with rfl | h'
  · decide
  · rcases cases5 g h' with rfl | rfl | rfl | rfl | rfl <;> decide
theorem gend_lt (g : Nat) (h : g < 5) : gend g < 36 := by
  rcases cases5 g h with rfl | rfl | rfl | rfl | rfl <;> decide
theorem glen_le (g : Nat) : glen g ≤ 12 := by
  unfold glen; split <;> decide
theorem gbeg_zero : gbeg 0 = 0 := rfl
theorem gend_zero : gend 0 = 0 := rfl
theorem gend_five : gend 5 = 36 := rfl
theorem gbeg_pos (g : Nat) (h : 0 < g) : gbeg g = gend g + 1 := by unfold gbeg; rw [if_neg (by omega)]
theorem hyp_gend (g : Nat) (h : g < 5) (h0 : 0 < g) : hyp (gend g) = true := by
  rcases cases5 g h with rfl | rfl | rfl | rfl | rfl
  · omega
  all_goals rfl
theorem hyp_in (g k : Nat) (h : g < 5) (hk : k < glen g) : hyp (gbeg g + k) = false := by
  rcases cases5 g h with rfl | rfl | rfl | rfl | rfl
  all_goals
    simp only [hyp, gbeg, gend, glen] at hk ⊢
    simp
    omega

/-- The table of the 22 hexadecimal digits. -/
abbrev hexSet : ByteArray := ⟨#[48, 49, 50, 51, 52, 53, 54, 55, 56, 57, 97, 98, 99, 100, 101, 102, 65, 66, 67, 68, 69, 70]⟩

theorem hex_set : ∀ c : Fin 256, hexB c.val = hexSet.data.toList.any (fun d => d.toNat == c.val) := by decide +kernel

theorem hex_not (c : Nat) (hc : c < 256) (h : ∀ j (hj : j < hexSet.size), (hexSet[j]'hj).toNat ≠ c) : hexB c = false := by
  rw [hex_set ⟨c, hc⟩, List.any_eq_false]
  intro d hd
  obtain ⟨j, hj, rfl⟩ := List.getElem_of_mem hd
  simp only [beq_iff_eq]
  exact h j hj
theorem hex_yes (c : Nat) (hc : c < 256) (j : Nat) (hj : j < hexSet.size) (h : (hexSet[j]'hj).toNat = c) : hexB c = true := by
  rw [hex_set ⟨c, hc⟩, List.any_eq_true]
  refine ⟨hexSet.data.toList[j]'hj, List.getElem_mem _, ?_⟩
  simp only [beq_iff_eq]
  exact h
end Go.Proofs.Qxb6600663a
