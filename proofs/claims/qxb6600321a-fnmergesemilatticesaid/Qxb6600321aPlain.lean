/-
  PLAIN MATHEMATICS of vector clocks: lists of integers, the merge as the component-wise maximum. Nothing of the program in this file.
-/
namespace Go.Proofs.Qxb6600321a

/-- Component i, 0 past the end. -/
def at0 (l : List Int) (i : Nat) : Int := l[i]?.getD 0

/-- The list of f 0, .., f (n - 1). -/
def tab (n : Nat) (f : Nat → Int) : List Int := (List.range n).map f

theorem tab_length (n : Nat) (f : Nat → Int) : (tab n f).length = n := by simp [tab]

theorem tab_get? (n : Nat) (f : Nat → Int) (i : Nat) (h : i < n) : (tab n f)[i]? = some (f i) := by
  simp [tab, h]

theorem at0_tab (n : Nat) (f : Nat → Int) (i : Nat) : at0 (tab n f) i = if i < n then f i else 0 := by
  unfold at0
  by_cases h : i < n
  · rw [tab_get? n f i h, if_pos h]; rfl
  · rw [List.getElem?_eq_none (by rw [tab_length]; omega), if_neg h]; rfl

theorem at0_past (l : List Int) (i : Nat) (h : l.length ≤ i) : at0 l i = 0 := by
  unfold at0
  rw [List.getElem?_eq_none h]; rfl

theorem ext_at0 (l m : List Int) (hl : l.length = m.length) (h : ∀ i, i < l.length → at0 l i = at0 m i) : l = m := by
  apply List.ext_getElem hl
  intro i h1 h2
  have := h i h1
  unfold at0 at this
  rwa [List.getElem?_eq_getElem h1, List.getElem?_eq_getElem h2] at this

theorem tab_at0 (l : List Int) : tab l.length (at0 l) = l := by
  apply ext_at0
  · rw [tab_length]
  · intro i hi
    rw [tab_length] at hi
    rw [at0_tab, if_pos hi]

theorem tab_congr (n : Nat) (f g : Nat → Int) (h : ∀ i, i < n → f i = g i) : tab n f = tab n g := by
  apply ext_at0
  · rw [tab_length, tab_length]
  · intro i hi
    rw [tab_length] at hi
    rw [at0_tab, at0_tab, if_pos hi, if_pos hi, h i hi]

theorem tab_set (n : Nat) (f : Nat → Int) (k : Nat) (z : Int) : (tab n f).set k z = tab n (fun i => if i = k then z else f i) := by
  apply List.ext_getElem?
  intro i
  rw [List.getElem?_set]
  by_cases hi : i < n
  · rw [tab_get? n _ i hi, tab_get? n _ i hi, tab_length]
    by_cases hk : k = i
    · subst hk; simp [hi]
    · rw [if_neg hk, if_neg (fun e => hk e.symm)]
  · rw [List.getElem?_eq_none (l := tab n _) (by rw [tab_length]; omega), List.getElem?_eq_none (l := tab n _) (by rw [tab_length]; omega), tab_length]
    split
    · rw [if_neg (by omega)]
    · rfl

/-- The greater of two. -/
def mx (x y : Int) : Int := if x < y then y else x

/-- The merge of two vectors. -/
def mrg (a b : List Int) : List Int := tab (max a.length b.length) (fun i => mx (at0 a i) (at0 b i))

theorem mrg_length (a b : List Int) : (mrg a b).length = max a.length b.length := tab_length _ _

theorem at0_mrg (a b : List Int) (i : Nat) : at0 (mrg a b) i = mx (at0 a i) (at0 b i) := by
  unfold mrg
  rw [at0_tab]
  by_cases h : i < max a.length b.length
  · rw [if_pos h]
  · rw [if_neg h, at0_past a i (by omega), at0_past b i (by omega)]; rfl

theorem mx_comm (x y : Int) : mx x y = mx y x := by unfold mx; split <;> split <;> omega
theorem mx_assoc (x y z : Int) : mx (mx x y) z = mx x (mx y z) := by
  unfold mx
  by_cases h1 : x < y <;> by_cases h2 : y < z <;> by_cases h3 : x < z <;> simp only [h1, h2, h3, if_true, if_false] <;> omega

theorem mrg_comm (a b : List Int) : mrg a b = mrg b a := by
  apply ext_at0
  · rw [mrg_length, mrg_length, Nat.max_comm]
  · intro i _
    rw [at0_mrg, at0_mrg, mx_comm]

theorem mrg_assoc (a b c : List Int) : mrg (mrg a b) c = mrg a (mrg b c) := by
  apply ext_at0
  · simp only [mrg_length]; omega
  · intro i _
    simp only [at0_mrg]
    exact mx_assoc _ _ _

theorem mrg_self (a : List Int) : mrg a a = a := by
  apply ext_at0
  · simp only [mrg_length]; omega
  · intro i _
    rw [at0_mrg]; unfold mx; split <;> rfl

theorem mrg_nil (a : List Int) (h : ∀ i, 0 ≤ at0 a i) : mrg a [] = a := by
  apply ext_at0
  · simp only [mrg_length, List.length_nil]; omega
  · intro i _
    rw [at0_mrg]
    have := h i
    have e : at0 [] i = 0 := at0_past _ _ (by simp)
    rw [e]; unfold mx; rw [if_neg (by omega)]

theorem nil_mrg (a : List Int) (h : ∀ i, 0 ≤ at0 a i) : mrg [] a = a := by rw [mrg_comm, mrg_nil a h]

/-- What lies in the new row when k components of b have been merged into a. -/
def upto (a b : List Int) (n k : Nat) : List Int := tab n (fun i => if i < k then mx (at0 a i) (at0 b i) else at0 a i)

theorem upto_zero (a b : List Int) (n : Nat) : upto a b n 0 = tab n (at0 a) := tab_congr _ _ _ (fun i _ => by rw [if_neg (by omega)])

theorem upto_step (a b : List Int) (n k : Nat) (z : Int) (h : z = mx (at0 a k) (at0 b k)) : (upto a b n k).set k z = upto a b n (k + 1) := by
  unfold upto
  rw [tab_set]
  apply tab_congr
  intro i _
  by_cases h1 : i = k
  · subst h1
    rw [if_pos rfl, if_pos (by omega), h]
  · rw [if_neg h1]
    by_cases h2 : i < k
    · rw [if_pos h2, if_pos (by omega)]
    · rw [if_neg h2, if_neg (by omega)]

theorem at0_upto (a b : List Int) (n k : Nat) (h : k < n) : at0 (upto a b n k) k = at0 a k := by
  unfold upto
  rw [at0_tab, if_pos h, if_neg (by omega)]

theorem upto_end (a b : List Int) (n k : Nat) (hn : n = max a.length b.length) (hk : b.length ≤ k) (ha : ∀ i, 0 ≤ at0 a i) : upto a b n k = mrg a b := by
  subst hn
  apply tab_congr
  intro i _
  by_cases h : i < k
  · rw [if_pos h]
  · rw [if_neg h]
    have e : at0 b i = 0 := at0_past _ _ (by omega)
    have := ha i
    rw [e]; unfold mx; rw [if_neg (by omega)]

/-- What lies in the new row when k components of a have been copied. -/
def cpy (a : List Int) (n k : Nat) : List Int := tab n (fun i => if i < k then at0 a i else 0)

theorem cpy_step (a : List Int) (n k : Nat) : (cpy a n k).set k (at0 a k) = cpy a n (k + 1) := by
  unfold cpy
  rw [tab_set]
  apply tab_congr
  intro i _
  by_cases h1 : i = k
  · subst h1
    rw [if_pos rfl, if_pos (by omega)]
  · rw [if_neg h1]
    by_cases h2 : i < k
    · rw [if_pos h2, if_pos (by omega)]
    · rw [if_neg h2, if_neg (by omega)]

theorem cpy_zero (a : List Int) (n : Nat) : cpy a n 0 = List.replicate n 0 := by
  apply ext_at0
  · simp [cpy, tab_length]
  · intro i hi
    unfold cpy at hi ⊢
    rw [tab_length] at hi
    rw [at0_tab, if_pos hi, if_neg (by omega)]
    simp [at0, hi]

theorem cpy_end (a : List Int) : cpy a a.length a.length = a := by
  have h : cpy a a.length a.length = tab a.length (at0 a) := tab_congr _ _ _ (fun i hi => by rw [if_pos hi])
  rw [h, tab_at0]

theorem pos_mrg (a b : List Int) (ha : ∀ i, 0 ≤ at0 a i) (hb : ∀ i, 0 ≤ at0 b i) (i : Nat) : 0 ≤ at0 (mrg a b) i := by
  rw [at0_mrg]; unfold mx; have := ha i; have := hb i; split <;> omega

/-- A copy of a at the head of a row of zeros. -/
theorem splice_zeros (a : List Int) (n : Nat) (h : a.length ≤ n) : a ++ (List.replicate n (0 : Int)).drop a.length = tab n (at0 a) := by
  apply ext_at0
  · rw [tab_length]; simp; omega
  · intro i hi
    have hi' : i < n := by simp at hi; omega
    rw [at0_tab, if_pos hi']
    unfold at0
    by_cases hl : i < a.length
    · rw [List.getElem?_append_left hl]
    · rw [List.getElem?_append_right (by omega), List.getElem?_eq_none (l := a) (by omega)]
      simp only [List.drop_replicate, List.getElem?_replicate]
      split <;> rfl
end Go.Proofs.Qxb6600321a
