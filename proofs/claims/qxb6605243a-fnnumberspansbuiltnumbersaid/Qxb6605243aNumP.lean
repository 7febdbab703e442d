import Derived.Test.Qxb6605243aPlain
/-
  PLAIN LAWS: the parser's places: how the pieces that the Go text reads one behind the other add up.
-/
namespace Go.Proofs.Qxb6605243a.Plain

theorem num_from {zs : List Int} {pos i1 : Nat} (h : i1 = pos + minN (zs.drop pos)) : numN (zs.drop pos) = (bodyN (zs.drop i1)).map fun c => minN (zs.drop pos) + c := by
  rw [numN, List.drop_drop, ← h]
theorem num_none_int {zs : List Int} {pos i1 : Nat} (h : i1 = pos + minN (zs.drop pos)) (h2 : intN (zs.drop i1) = none) : numN (zs.drop pos) = none := by
  rw [num_from h, bodyN, h2]; rfl
theorem num_after_int {zs : List Int} {pos i1 i2 : Nat} (h : i1 = pos + minN (zs.drop pos)) (h2 : ∃ a, intN (zs.drop i1) = some a ∧ i2 = i1 + a) :
    numN (zs.drop pos) = (tailN (zs.drop i2)).map fun c => (i2 - pos) + c := by
  obtain ⟨a, h2, e⟩ := h2
  rw [num_from h, bodyN, h2, Option.bind_some, List.drop_drop, ← e, Option.map_map]
  congr 1; funext x; simp; omega
theorem num_after_frac {zs : List Int} {pos i2 i3 : Nat} (hp : pos ≤ i2) (h : numN (zs.drop pos) = (tailN (zs.drop i2)).map fun c => (i2 - pos) + c) (h2 : ∃ a, fracN (zs.drop i2) = some a ∧ i3 = i2 + a) :
    numN (zs.drop pos) = (expN (zs.drop i3)).map fun c => (i3 - pos) + c := by
  obtain ⟨a, h2, e⟩ := h2
  rw [h, tailN, h2, Option.bind_some, List.drop_drop, ← e, Option.map_map]
  congr 1; funext x; simp; omega
theorem num_none_frac {zs : List Int} {pos i2 : Nat} (h : numN (zs.drop pos) = (tailN (zs.drop i2)).map fun c => (i2 - pos) + c) (h2 : fracN (zs.drop i2) = none) : numN (zs.drop pos) = none := by
  rw [h, tailN, h2]; rfl
theorem num_none_exp {zs : List Int} {pos i3 : Nat} (h : numN (zs.drop pos) = (expN (zs.drop i3)).map fun c => (i3 - pos) + c) (h2 : expN (zs.drop i3) = none) : numN (zs.drop pos) = none := by
  rw [h, h2]; rfl
theorem num_after_exp {zs : List Int} {pos i3 i4 : Nat} (hp : pos ≤ i3) (h : numN (zs.drop pos) = (expN (zs.drop i3)).map fun c => (i3 - pos) + c) (h2 : ∃ a, expN (zs.drop i3) = some a ∧ i4 = i3 + a) :
    ∃ k, numN (zs.drop pos) = some k ∧ i4 = pos + k := by
  obtain ⟨a, h2, e⟩ := h2
  exact ⟨i3 - pos + a, by rw [h, h2]; rfl, by omega⟩

/-- The byte at place i is c. -/
def isAt (zs : List Int) (n i : Nat) (c : Int) : Bool := decide (i < n) && (zs.getD i 0 == c)
theorem isAt_true {zs : List Int} {n i : Nat} {c : Int} : isAt zs n i c = true ↔ i < n ∧ zs.getD i 0 = c := by simp [isAt]
theorem isAt_false {zs : List Int} {n i : Nat} {c : Int} : isAt zs n i c = false ↔ ¬ (i < n ∧ zs.getD i 0 = c) := by rw [← isAt_true]; simp

/-- A mark of an exponent at place i. -/
def eAt (zs : List Int) (n i : Nat) : Bool := isAt zs n i 101 || isAt zs n i 69
theorem eAt_true {zs : List Int} {n i : Nat} : eAt zs n i = true ↔ i < n ∧ (zs.getD i 0 = 101 ∨ zs.getD i 0 = 69) := by
  simp [eAt, isAt_true]; omega
theorem eAt_false {zs : List Int} {n i : Nat} : eAt zs n i = false ↔ ¬ (i < n ∧ (zs.getD i 0 = 101 ∨ zs.getD i 0 = 69)) := by rw [← eAt_true]; simp

theorem eAt_of {zs : List Int} {n i : Nat} {c : Int} (hi : i < n) (hc : c = zs.getD i 0) (h : (c == 101) = false) : eAt zs n i = (c == 69) := by
  unfold eAt isAt; rw [← hc, h, decide_eq_true hi]; rfl

theorem drop_at {zs : List Int} {n k : Nat} (hl : zs.length = n) (hk : k < n) : zs.drop k = zs.getD k 0 :: zs.drop (k + 1) := by
  rw [List.drop_eq_getElem_cons (by omega)]; simp [List.getD, show k < zs.length by omega]
theorem drop_end {zs : List Int} {n k : Nat} (hl : zs.length = n) (hk : n ≤ k) : zs.drop k = [] := List.drop_of_length_le (by omega)

theorem dig_room {zs : List Int} {n i : Nat} (hl : zs.length = n) (hi : i ≤ n) : i + digN (zs.drop i) ≤ n := by
  have := digN_le (zs.drop i)
  simp at this; omega

/-! the integer part -/
theorem int_zero {zs : List Int} {n i : Nat} (hl : zs.length = n) (hi : i < n) (hc : zs.getD i 0 = 48) : ∃ a, intN (zs.drop i) = some a ∧ i + 1 = i + a :=
  ⟨1, by rw [drop_at hl hi, hc]; rfl, rfl⟩
theorem int_run {zs : List Int} {n i : Nat} (hl : zs.length = n) (hi : i < n) (hc : 49 ≤ zs.getD i 0 ∧ zs.getD i 0 ≤ 57) : ∃ a, intN (zs.drop i) = some a ∧ i + digN (zs.drop i) = i + a := by
  have hd : isDig (zs.getD i 0) = true := isDig_true.2 (by omega)
  refine ⟨digN (zs.drop i), ?_, rfl⟩
  rw [drop_at hl hi, intN, if_neg (by omega), if_pos hd, digN_hit hd]
theorem int_bad {zs : List Int} {n i : Nat} (hl : zs.length = n) (hi : i < n) (hc : zs.getD i 0 < 48 ∨ 57 < zs.getD i 0) : intN (zs.drop i) = none := by
  have hd : isDig (zs.getD i 0) = false := isDig_false.2 (by omega)
  rw [drop_at hl hi, intN, if_neg (by omega), hd]; rfl
theorem int_end {zs : List Int} {n i : Nat} (hl : zs.length = n) (hi : n ≤ i) : intN (zs.drop i) = none := by
  rw [drop_end hl hi]; rfl

/-! the fraction -/
theorem frac_no {zs : List Int} {n i : Nat} (hl : zs.length = n) (h : isAt zs n i 46 = false) : ∃ a, fracN (zs.drop i) = some a ∧ i = i + a := by
  refine ⟨0, ?_, rfl⟩
  rw [isAt_false] at h
  by_cases hi : i < n
  · rw [drop_at hl hi, fracN, if_neg (by omega)]
  · rw [drop_end hl (by omega)]; rfl
theorem frac_yes {zs : List Int} {n i : Nat} (hl : zs.length = n) (h : isAt zs n i 46 = true) (hd : ¬ digN (zs.drop (i + 1)) = 0) : ∃ a, fracN (zs.drop i) = some a ∧ i + 1 + digN (zs.drop (i + 1)) = i + a := by
  rw [isAt_true] at h
  refine ⟨digN (zs.drop (i + 1)) + 1, ?_, by omega⟩
  rw [drop_at hl h.1, fracN, if_pos h.2, if_neg hd]
theorem frac_bad {zs : List Int} {n i : Nat} (hl : zs.length = n) (h : isAt zs n i 46 = true) (hd : digN (zs.drop (i + 1)) = 0) : fracN (zs.drop i) = none := by
  rw [isAt_true] at h
  rw [drop_at hl h.1, fracN, if_pos h.2, if_pos hd]

/-! the exponent -/
theorem exp_no {zs : List Int} {n i : Nat} (hl : zs.length = n) (h : eAt zs n i = false) : ∃ a, expN (zs.drop i) = some a ∧ i = i + a := by
  refine ⟨0, ?_, rfl⟩
  rw [eAt_false] at h
  by_cases hi : i < n
  · rw [drop_at hl hi, expN, if_neg (by omega)]
  · rw [drop_end hl (by omega)]; rfl
theorem exp_yes {zs : List Int} {n i j : Nat} (hl : zs.length = n) (h : eAt zs n i = true) (hj : j = i + 1 + sgnN (zs.drop (i + 1))) (hd : ¬ digN (zs.drop j) = 0) : ∃ a, expN (zs.drop i) = some a ∧ j + digN (zs.drop j) = i + a := by
  rw [eAt_true] at h
  refine ⟨digN (zs.drop j) + sgnN (zs.drop (i + 1)) + 1, ?_, by omega⟩
  rw [drop_at hl h.1, expN, if_pos h.2, List.drop_drop, ← hj, if_neg hd]
theorem exp_bad {zs : List Int} {n i j : Nat} (hl : zs.length = n) (h : eAt zs n i = true) (hj : j = i + 1 + sgnN (zs.drop (i + 1))) (hd : digN (zs.drop j) = 0) : expN (zs.drop i) = none := by
  rw [eAt_true] at h
  rw [drop_at hl h.1, expN, if_pos h.2, List.drop_drop, ← hj, if_pos hd]
theorem sgn_at {zs : List Int} {n i : Nat} (hl : zs.length = n) (hi : i < n) (h : zs.getD i 0 = 43 ∨ zs.getD i 0 = 45) : sgnN (zs.drop i) = 1 := by
  rw [drop_at hl hi, sgnN, if_pos h]
theorem sgn_not {zs : List Int} {n i : Nat} (hl : zs.length = n) (h : ¬ (i < n ∧ (zs.getD i 0 = 43 ∨ zs.getD i 0 = 45))) : sgnN (zs.drop i) = 0 := by
  by_cases hi : i < n
  · rw [drop_at hl hi, sgnN, if_neg (by omega)]
  · rw [drop_end hl (by omega)]; rfl
end Go.Proofs.Qxb6605243a.Plain
