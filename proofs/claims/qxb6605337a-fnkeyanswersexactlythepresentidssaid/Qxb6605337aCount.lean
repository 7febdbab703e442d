/-
  PLAIN LAWS: which numbers below 256 are present among the first k IDs; how many. No Go in sight.
-/
namespace Go.Proofs.Qxb6605337a

/-- v is among the first k IDs. -/
def pres (I : Nat → Int) (v : Nat) : Nat → Bool
  | 0 => false
  | k + 1 => pres I v k || (I k == (v : Int))
theorem pres_true {I : Nat → Int} {v k : Nat} : pres I v k = true ↔ ∃ i, i < k ∧ I i = (v : Int) := by
  induction k with
  | zero => simp [pres]
  | succ k ih =>
    simp only [pres, Bool.or_eq_true, ih, beq_iff_eq]
    constructor
    · rintro (⟨i, h1, h2⟩ | h)
      · exact ⟨i, by omega, h2⟩
      · exact ⟨k, by omega, h⟩
    · rintro ⟨i, h1, h2⟩
      by_cases e : i = k
      · subst e; exact .inr h2
      · exact .inl ⟨i, by omega, h2⟩
/-- How many numbers below m have the property. -/
def cnt (P : Nat → Bool) : Nat → Nat
  | 0 => 0
  | m + 1 => cnt P m + if P m then 1 else 0
theorem cnt_congr {P Q : Nat → Bool} {m : Nat} (h : ∀ v, v < m → P v = Q v) : cnt P m = cnt Q m := by
  induction m with
  | zero => rfl
  | succ m ih => simp only [cnt]; rw [ih (fun v hv => h v (by omega)), h m (by omega)]
theorem cnt_set {P Q : Nat → Bool} {v m : Nat} (hv : v < m) (h0 : P v = false) (h1 : Q v = true) (h : ∀ u, u < m → u ≠ v → P u = Q u) : cnt Q m = cnt P m + 1 := by
  induction m with
  | zero => omega
  | succ m ih =>
    simp only [cnt]
    by_cases e : v = m
    · subst e
      rw [h0, h1, cnt_congr (P := P) (Q := Q) (fun u hu => h u (by omega) (by omega))]
      simp
    · rw [ih (by omega) (fun u hu hne => h u (by omega) hne), h m (by omega) (by omega)]
      omega
theorem cnt_le (P : Nat → Bool) (m : Nat) : cnt P m ≤ m := by
  induction m with
  | zero => simp [cnt]
  | succ m ih => simp only [cnt]; split <;> omega
/-- The ID is there already: nothing turns. -/
theorem cnt_old {I : Nat → Int} {k c : Nat} (hI : I k = (c : Int)) (h : pres I c k = true) : (∀ v, pres I v (k + 1) = pres I v k) := by
  intro v
  simp only [pres]
  by_cases e : I k = (v : Int)
  · have : v = c := by omega
    subst this; rw [h]; rfl
  · have : (I k == (v : Int)) = false := by simpa using e
    rw [this]; simp
/-- The ID is new: it alone is added. -/
theorem pres_new {I : Nat → Int} {k c : Nat} (hI : I k = (c : Int)) : (∀ v, pres I v (k + 1) = (if v = c then true else pres I v k)) := by
  intro v
  simp only [pres]
  by_cases e : v = c
  · subst e; rw [if_pos rfl, hI]; simp
  · have : (I k == (v : Int)) = false := by rw [hI]; simp; omega
    rw [this, if_neg e]; simp
end Go.Proofs.Qxb6605337a
