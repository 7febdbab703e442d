import Derived.Test.Qxb6605243aPlain
/-
  PLAIN LAWS: the built text, its cuts, and what 'number' reads behind a prefix.
-/
namespace Go.Proofs.Qxb6605243a.Plain

/-- The text up to the exponent. -/
def upTo (neg : Bool) (is : List Int) (hf : Bool) (fs : List Int) : List Int := (sgn neg ++ ints is) ++ frac hf fs
/-- The whole text. -/
def whole (neg : Bool) (is : List Int) (hf : Bool) (fs : List Int) (he u : Bool) (k : Int) (es : List Int) : List Int := upTo neg is hf fs ++ expo he u k es

theorem drop_pre {z0 l : List Int} {n : Nat} (h : z0.length = n) : (z0 ++ l).drop n = l := by
  rw [← h]; simp
theorem read_whole (z0 : List Int) (n0 : Nat) (h0 : z0.length = n0) (neg : Bool) (is : List Int) (hf : Bool) (fs : List Int) (he u : Bool) (k : Int) (es tail : List Int) (ht : Stops tail) :
    numN ((z0 ++ (whole neg is hf fs he u k es ++ tail)).drop n0) = some (whole neg is hf fs he u k es).length := by
  rw [drop_pre h0]
  have := num_whole neg is hf fs he u k es tail ht
  simp only [whole, upTo, List.append_assoc, List.length_append] at this ⊢
  rw [this]; congr 1; omega
theorem take_dot (neg : Bool) (is fs : List Int) (he u : Bool) (k : Int) (es : List Int) (d : Nat) (hd : d = (sgn neg ++ ints is).length + 1) :
    (whole neg is true fs he u k es).take d = (sgn neg ++ ints is) ++ [46] := by
  have e : whole neg is true fs he u k es = ((sgn neg ++ ints is) ++ [46]) ++ (digs fs ++ expo he u k es) := by simp [whole, upTo, frac]
  rw [e, List.take_append_of_le_length (by simp at hd ⊢; omega), List.take_of_length_le (by simp at hd ⊢; omega)]
theorem read_dot (z0 : List Int) (n0 : Nat) (h0 : z0.length = n0) (neg : Bool) (is fs : List Int) (he u : Bool) (k : Int) (es tail : List Int) (ht : Stops tail) (d : Nat) (hd : d = (sgn neg ++ ints is).length + 1) :
    numN ((z0 ++ ((whole neg is true fs he u k es).take d ++ tail)).drop n0) = none := by
  rw [drop_pre h0, take_dot neg is fs he u k es d hd]
  have := num_dot neg is tail ht
  simpa [List.append_assoc] using this
theorem take_exp (neg : Bool) (is : List Int) (hf : Bool) (fs : List Int) (u : Bool) (k : Int) (es : List Int) (d : Nat) (hd : d = (upTo neg is hf fs).length + 1 + (eSign k).length) :
    (whole neg is hf fs true u k es).take d = upTo neg is hf fs ++ (eMark u :: eSign k) := by
  have e : whole neg is hf fs true u k es = (upTo neg is hf fs ++ (eMark u :: eSign k)) ++ digs es := by simp [whole, expo]
  rw [e, List.take_append_of_le_length (by simp at hd ⊢; omega), List.take_of_length_le (by simp at hd ⊢; omega)]
theorem read_exp (z0 : List Int) (n0 : Nat) (h0 : z0.length = n0) (neg : Bool) (is : List Int) (hf : Bool) (fs : List Int) (u : Bool) (k : Int) (es tail : List Int) (ht : Stops tail) (d : Nat) (hd : d = (upTo neg is hf fs).length + 1 + (eSign k).length) :
    numN ((z0 ++ ((whole neg is hf fs true u k es).take d ++ tail)).drop n0) = none := by
  rw [drop_pre h0, take_exp neg is hf fs u k es d hd]
  have := num_exp neg is hf fs u k tail ht
  simpa [upTo, List.append_assoc] using this

theorem digs_len (ds : List Int) : (digs ds).length ≤ ds.length + 1 := by unfold digs; split <;> simp
theorem ints_len (ds : List Int) : (ints ds).length ≤ ds.length + 1 := by
  match ds with
  | [] => simp [ints, digs]
  | [_] => simp [ints, digs]
  | _ :: _ :: _ => simp [ints]
theorem ints_pos (ds : List Int) : 0 < (ints ds).length := by
  rcases ints_form ds with e | ⟨c, l, e, _⟩ <;> rw [e] <;> simp
theorem sgn_len (neg : Bool) : (sgn neg).length ≤ 1 := by cases neg <;> simp [sgn]
theorem eSign_len (k : Int) : (eSign k).length ≤ 1 := by
  by_cases h1 : k = 1
  · simp [eSign, h1]
  · by_cases h2 : k = 2 <;> simp [eSign, h1, h2]
theorem frac_len (hf : Bool) (fs : List Int) : (frac hf fs).length ≤ fs.length + 2 := by
  have := digs_len fs
  cases hf <;> simp [frac]; omega
theorem expo_len (he u : Bool) (k : Int) (es : List Int) : (expo he u k es).length ≤ es.length + 3 := by
  have := digs_len es
  have := eSign_len k
  cases he <;> simp [expo]; omega
theorem whole_len (neg : Bool) (is : List Int) (hf : Bool) (fs : List Int) (he u : Bool) (k : Int) (es : List Int) :
    0 < (whole neg is hf fs he u k es).length ∧ (upTo neg is hf fs).length ≤ is.length + fs.length + 4 ∧ (whole neg is hf fs he u k es).length ≤ is.length + fs.length + es.length + 7 := by
  have h1 := ints_pos is
  have h2 := ints_len is
  have h3 := sgn_len neg
  have h4 := frac_len hf fs
  have h5 := expo_len he u k es
  simp only [whole, upTo, List.length_append]
  omega
theorem dig_bd {c : Int} (h : isDig c = true) : 0 ≤ c ∧ c ≤ 255 := by rw [isDig_true] at h; omega
theorem whole_bd (neg : Bool) (is : List Int) (hf : Bool) (fs : List Int) (he u : Bool) (k : Int) (es : List Int) : ∀ c ∈ whole neg is hf fs he u k es, 0 ≤ c ∧ c ≤ 255 := by
  intro c hc
  simp only [whole, upTo, List.mem_append] at hc
  rcases hc with ((hc | hc) | hc) | hc
  · cases neg <;> simp [sgn] at hc; omega
  · rcases ints_form is with e | ⟨d, l, e, _, hd, hl⟩
    · rw [e] at hc; simp at hc; omega
    · rw [e] at hc
      rcases List.mem_cons.1 hc with rfl | hc
      · exact dig_bd hd
      · exact dig_bd (hl c hc)
  · cases hf
    · simp [frac] at hc
    · simp only [frac, if_true, List.mem_cons] at hc
      rcases hc with rfl | hc
      · omega
      · exact dig_bd (digs_dig fs c hc)
  · cases he
    · simp [expo] at hc
    · simp only [expo, if_true, List.mem_cons, List.mem_append] at hc
      rcases hc with rfl | hc | hc
      · have := eMark_e u; omega
      · unfold eSign at hc
        split at hc
        · simp at hc; omega
        · split at hc
          · simp at hc; omega
          · simp at hc
      · exact dig_bd (digs_dig es c hc)
end Go.Proofs.Qxb6605243a.Plain
