/-
  PLAIN LAWS for seat b6605243a: no Go in sight. Bytes are integers; a text is a list of them.
-/
namespace Go.Proofs.Qxb6605243a.Plain

/-! ### digits -/
def isDig (c : Int) : Bool := decide (48 ≤ c) && decide (c ≤ 57)
theorem isDig_true {c : Int} : isDig c = true ↔ 48 ≤ c ∧ c ≤ 57 := by simp [isDig]
theorem isDig_false {c : Int} : isDig c = false ↔ ¬ (48 ≤ c ∧ c ≤ 57) := by
  rw [← isDig_true]; simp

/-- How many digits open the text. -/
def digN : List Int → Nat
  | [] => 0
  | c :: l => if isDig c then digN l + 1 else 0

theorem digN_le (l : List Int) : digN l ≤ l.length := by
  induction l with
  | nil => simp [digN]
  | cons c l ih => simp only [digN]; split <;> simp <;> omega
theorem digN_hit {c : Int} {l : List Int} (h : isDig c = true) : digN (c :: l) = digN l + 1 := by simp [digN, h]
theorem digN_miss {c : Int} {l : List Int} (h : isDig c = false) : digN (c :: l) = 0 := by simp [digN, h]

/-! ### the number's grammar, as the parser reads it: how many bytes are consumed -/
def minN : List Int → Nat
  | [] => 0
  | c :: _ => if c = 45 then 1 else 0
def intN : List Int → Option Nat
  | [] => none
  | c :: l => if c = 48 then some 1 else if isDig c then some (digN l + 1) else none
def fracN : List Int → Option Nat
  | [] => some 0
  | c :: l => if c = 46 then (if digN l = 0 then none else some (digN l + 1)) else some 0
def sgnN : List Int → Nat
  | [] => 0
  | c :: _ => if c = 43 ∨ c = 45 then 1 else 0
def expN : List Int → Option Nat
  | [] => some 0
  | c :: l => if c = 101 ∨ c = 69 then (if digN (l.drop (sgnN l)) = 0 then none else some (digN (l.drop (sgnN l)) + sgnN l + 1)) else some 0
/-- From the fraction on. -/
def tailN (l : List Int) : Option Nat := (fracN l).bind fun b => (expN (l.drop b)).map fun c => b + c
/-- From the integer part on. -/
def bodyN (l : List Int) : Option Nat := (intN l).bind fun a => (tailN (l.drop a)).map fun c => a + c
def numN (l : List Int) : Option Nat := (bodyN (l.drop (minN l))).map fun c => minN l + c

/-! ### the automaton -/
def step (s : Nat) (c : Int) : Option Nat :=
  match s with
  | 0 => if c = 45 then some 1 else if c = 48 then some 2 else if isDig c then some 3 else none
  | 1 => if c = 48 then some 2 else if isDig c then some 3 else none
  | 2 => if c = 46 then some 4 else if c = 101 ∨ c = 69 then some 6 else none
  | 3 => if isDig c then some 3 else if c = 46 then some 4 else if c = 101 ∨ c = 69 then some 6 else none
  | 4 => if isDig c then some 5 else none
  | 5 => if isDig c then some 5 else if c = 101 ∨ c = 69 then some 6 else none
  | 6 => if c = 43 ∨ c = 45 then some 7 else if isDig c then some 8 else none
  | 7 => if isDig c then some 8 else none
  | 8 => if isDig c then some 8 else none
  | _ => none
def acc (s : Nat) : Bool := s == 2 || s == 3 || s == 5 || s == 8
/-- Run till there is no transition: how many bytes were consumed, if the state then accepts. -/
def run (s : Nat) : List Int → Option Nat
  | [] => if acc s then some 0 else none
  | c :: l => match step s c with
    | some t => (run t l).map (· + 1)
    | none => if acc s then some 0 else none

theorem run_nil (s : Nat) : run s [] = if acc s then some 0 else none := rfl
theorem run_go {s t : Nat} {c : Int} {l : List Int} (h : step s c = some t) : run s (c :: l) = (run t l).map (· + 1) := by simp [run, h]
theorem run_stop {s : Nat} {c : Int} {l : List Int} (h : step s c = none) : run s (c :: l) = if acc s then some 0 else none := by simp [run, h]

theorem step_lt {s t : Nat} {c : Int} (h : step s c = some t) : t ≤ 8 := by
  unfold step at h
  split at h <;> repeat' split at h
  all_goals first | omega | simp at h
  all_goals omega

theorem run8 (l : List Int) : run 8 l = some (digN l) := by
  induction l with
  | nil => rfl
  | cons c l ih =>
    by_cases h : isDig c = true
    · rw [run_go (t := 8) (by simp [step, h]), ih, digN_hit h]; rfl
    · have h' : isDig c = false := by simpa using h
      rw [run_stop (by simp [step, h']), digN_miss h']; rfl
theorem run7 (l : List Int) : run 7 l = if digN l = 0 then none else some (digN l) := by
  match l with
  | [] => rfl
  | c :: l =>
    by_cases h : isDig c = true
    · rw [run_go (t := 8) (by simp [step, h]), run8, digN_hit h]; simp
    · have h' : isDig c = false := by simpa using h
      rw [run_stop (by simp [step, h']), digN_miss h']; rfl
theorem run6 (l : List Int) : run 6 l = if digN (l.drop (sgnN l)) = 0 then none else some (digN (l.drop (sgnN l)) + sgnN l) := by
  match l with
  | [] => rfl
  | c :: l =>
    by_cases hs : c = 43 ∨ c = 45
    · rw [run_go (t := 7) (by simp [step, hs]), run7]
      simp only [sgnN, hs, if_true, List.drop_succ_cons, List.drop_zero]
      split <;> simp
    · simp only [sgnN, hs, if_false, List.drop_zero]
      by_cases h : isDig c = true
      · rw [run_go (t := 8) (by simp [step, h, hs]), run8, digN_hit h]; simp
      · have h' : isDig c = false := by simpa using h
        rw [run_stop (by simp [step, h', hs]), digN_miss h']; rfl
theorem nd46 : isDig 46 = false := by decide
theorem nd101 : isDig 101 = false := by decide
theorem nd69 : isDig 69 = false := by decide
theorem nde {c : Int} (h : c = 101 ∨ c = 69) : isDig c = false := by rcases h with rfl | rfl <;> decide
theorem expN_e {c : Int} {l : List Int} (h : c = 101 ∨ c = 69) : expN (c :: l) = (run 6 l).map (· + 1) := by
  rw [run6]; simp only [expN, h, if_true]; split <;> simp
theorem run5 (l : List Int) : run 5 l = (expN (l.drop (digN l))).map (digN l + ·) := by
  induction l with
  | nil => rfl
  | cons c l ih =>
    by_cases h : isDig c = true
    · rw [run_go (t := 5) (by simp [step, h]), ih, digN_hit h]
      simp only [List.drop_succ_cons, Option.map_map]
      congr 1; funext x; simp; omega
    · have h' : isDig c = false := by simpa using h
      rw [digN_miss h']
      by_cases he : c = 101 ∨ c = 69
      · rw [run_go (t := 6) (by simp [step, h', he])]
        simp [expN_e he]; rfl
      · rw [run_stop (by simp [step, h', he])]
        simp [expN, he, acc]
theorem run4 (l : List Int) : run 4 l = if digN l = 0 then none else (expN (l.drop (digN l))).map (digN l + ·) := by
  match l with
  | [] => rfl
  | c :: l =>
    by_cases h : isDig c = true
    · rw [run_go (t := 5) (by simp [step, h]), run5, digN_hit h]
      simp only [List.drop_succ_cons, Option.map_map]
      rw [if_neg (by omega)]
      congr 1; funext x; simp; omega
    · have h' : isDig c = false := by simpa using h
      rw [run_stop (by simp [step, h']), digN_miss h']; rfl
theorem tailN_dot {l : List Int} : tailN (46 :: l) = (run 4 l).map (· + 1) := by
  rw [run4]
  simp only [tailN, fracN, if_true]
  split
  · rfl
  · simp only [Option.bind_some, List.drop_succ_cons, Option.map_map]
    congr 1; funext x; simp; omega
theorem tailN_e {c : Int} {l : List Int} (h : c = 101 ∨ c = 69) : tailN (c :: l) = (run 6 l).map (· + 1) := by
  have hc : c ≠ 46 := by omega
  simp only [tailN, fracN, hc, if_false, Option.bind_some, List.drop_zero]
  rw [expN_e h]; simp; rfl
theorem tailN_none {c : Int} {l : List Int} (h : c ≠ 46) (he : ¬ (c = 101 ∨ c = 69)) : tailN (c :: l) = some 0 := by
  simp [tailN, fracN, h, expN, he]
theorem run2 (l : List Int) : run 2 l = tailN l := by
  match l with
  | [] => rfl
  | c :: l =>
    by_cases h : c = 46
    · subst h; rw [run_go (t := 4) (by simp [step]), tailN_dot]
    · by_cases he : c = 101 ∨ c = 69
      · rw [run_go (t := 6) (by simp [step, h, he]), tailN_e he]
      · rw [run_stop (by simp [step, h, he]), tailN_none h he]; rfl
theorem run3 (l : List Int) : run 3 l = (tailN (l.drop (digN l))).map (digN l + ·) := by
  induction l with
  | nil => rfl
  | cons c l ih =>
    by_cases h : isDig c = true
    · rw [run_go (t := 3) (by simp [step, h]), ih, digN_hit h]
      simp only [List.drop_succ_cons, Option.map_map]
      congr 1; funext x; simp; omega
    · have h' : isDig c = false := by simpa using h
      rw [digN_miss h']
      by_cases hd : c = 46
      · subst hd; rw [run_go (t := 4) (by simp [step, nd46])]; simp [tailN_dot]; rfl
      · by_cases he : c = 101 ∨ c = 69
        · rw [run_go (t := 6) (by simp [step, h', hd, he])]; simp [tailN_e he]; rfl
        · rw [run_stop (by simp [step, h', hd, he])]; simp [tailN_none hd he, acc]
theorem bodyN_go {s : Nat} {c : Int} {l : List Int} (h0 : c = 48 → step s c = some 2) (h1 : c ≠ 48 → isDig c = true → step s c = some 3) (h2 : isDig c = false → step s c = none) (ha : acc s = false) :
    run s (c :: l) = bodyN (c :: l) := by
  by_cases h : c = 48
  · rw [run_go (h0 h), run2]; subst h
    simp only [bodyN, intN, if_true, Option.bind_some, List.drop_succ_cons, List.drop_zero]
    congr 1; funext x; omega
  · by_cases hd : isDig c = true
    · rw [run_go (h1 h hd), run3]
      simp only [bodyN, intN, h, hd, if_true, if_false, Option.bind_some, List.drop_succ_cons, Option.map_map]
      congr 1; funext x; simp; omega
    · have h' : isDig c = false := by simpa using hd
      rw [run_stop (h2 h')]; simp [bodyN, intN, h, h', ha]
theorem ne48 {c : Int} (h : isDig c = false) : c ≠ 48 := by
  rintro rfl; simp [isDig] at h
theorem run1 (l : List Int) : run 1 l = bodyN l := by
  match l with
  | [] => rfl
  | c :: l => exact bodyN_go (s := 1) (c := c) (l := l) (by intro h; simp [step, h]) (by intro h hd; simp [step, h, hd]) (by intro h; simp [step, h, ne48 h]) rfl
theorem run0 (l : List Int) : run 0 l = numN l := by
  match l with
  | [] => rfl
  | c :: l =>
    by_cases h : c = 45
    · subst h
      rw [run_go (t := 1) (by simp [step]), run1]
      simp only [numN, minN, if_true, List.drop_succ_cons, List.drop_zero]
      congr 1; funext x; omega
    · have := bodyN_go (s := 0) (c := c) (l := l) (by intro h; simp [step, h]) (by intro h2 hd; simp [step, h, h2, hd])
        (by intro h2; simp [step, h, h2, ne48 h2]) rfl
      rw [this]; simp [numN, minN, h]

theorem numN_le (l : List Int) : ∀ k, numN l = some k → k ≤ l.length := by
  rw [← run0]
  generalize 0 = s
  induction l generalizing s with
  | nil => intro k h; simp [run] at h; omega
  | cons c l ih =>
    intro k h
    cases hs : step s c with
    | none => rw [run_stop hs] at h; simp at h; omega
    | some t =>
      rw [run_go hs] at h
      obtain ⟨m, hm, rfl⟩ := Option.map_eq_some_iff.1 h
      have := ih t m hm
      simp; omega


/-! ### a number built from its parts -/
theorem digN_append {xs ys : List Int} (h : ∀ c ∈ xs, isDig c = true) : digN (xs ++ ys) = xs.length + digN ys := by
  induction xs with
  | nil => simp
  | cons c l ih =>
    rw [List.cons_append, digN_hit (h c (by simp)), ih (fun d hd => h d (by simp [hd]))]
    simp; omega
/-- A byte that could carry a number on. -/
def carries (c : Int) : Bool := isDig c || c == 46 || c == 101 || c == 69 || c == 43 || c == 45
/-- A tail that cannot carry a number on. -/
def Stops (t : List Int) : Prop := ∀ c l, t = c :: l → carries c = false
theorem carries_false {c : Int} (h : carries c = false) : isDig c = false ∧ c ≠ 46 ∧ c ≠ 101 ∧ c ≠ 69 ∧ c ≠ 43 ∧ c ≠ 45 := by
  simp [carries] at h
  obtain ⟨⟨⟨⟨⟨h1, h2⟩, h3⟩, h4⟩, h5⟩, h6⟩ := h
  exact ⟨h1, h2, h3, h4, h5, h6⟩
theorem Stops.dig {t : List Int} (h : Stops t) : digN t = 0 := by
  match t, h with
  | [], _ => rfl
  | c :: l, h => exact digN_miss (carries_false (h c l rfl)).1
theorem Stops.sgn {t : List Int} (h : Stops t) : sgnN t = 0 := by
  match t, h with
  | [], _ => rfl
  | c :: l, h => obtain ⟨_, _, _, _, h5, h6⟩ := carries_false (h c l rfl); simp [sgnN, h5, h6]
theorem Stops.exp {t : List Int} (h : Stops t) : expN t = some 0 := by
  match t, h with
  | [], _ => rfl
  | c :: l, h => obtain ⟨_, _, h3, h4, _, _⟩ := carries_false (h c l rfl); simp [expN, h3, h4]
theorem Stops.tail {t : List Int} (h : Stops t) : tailN t = some 0 := by
  match t, h with
  | [], _ => rfl
  | c :: l, h => obtain ⟨_, h2, h3, h4, _, _⟩ := carries_false (h c l rfl); exact tailN_none h2 (by omega)

/-- One decimal digit for each byte; one '0' for none. -/
def digs (ds : List Int) : List Int := if ds.length = 0 then [48] else ds.map fun d => 48 + d % 10
/-- The same with no leading zero. -/
def ints : List Int → List Int
  | d :: e :: l => (49 + d % 9) :: (e :: l).map fun d => 48 + d % 10
  | ds => digs ds
theorem mod_dig (d : Int) : isDig (48 + d % 10) = true := by rw [isDig_true]; omega
theorem digs_dig (ds : List Int) : ∀ c ∈ digs ds, isDig c = true := by
  intro c hc
  unfold digs at hc
  split at hc
  · simp at hc; subst hc; rfl
  · obtain ⟨d, _, rfl⟩ := List.mem_map.1 hc; exact mod_dig d
theorem digs_pos (ds : List Int) : 0 < (digs ds).length := by
  unfold digs; split
  · simp
  · simp; omega
theorem ints_form (ds : List Int) : ints ds = [48] ∨ ∃ c l, ints ds = c :: l ∧ c ≠ 48 ∧ isDig c = true ∧ ∀ x ∈ l, isDig x = true := by
  match ds with
  | [] => left; rfl
  | [d] =>
    by_cases h : 48 + d % 10 = 48
    · left; simp [ints, digs, h]
    · right; exact ⟨48 + d % 10, [], by simp [ints, digs], h, mod_dig d, by simp⟩
  | d :: e :: l =>
    right
    refine ⟨49 + d % 9, (e :: l).map fun d => 48 + d % 10, rfl, by omega, by rw [isDig_true]; omega, ?_⟩
    intro x hx
    obtain ⟨y, _, rfl⟩ := List.mem_map.1 hx
    exact mod_dig y
theorem body_ints (ds rest : List Int) (h : digN rest = 0) : bodyN (ints ds ++ rest) = (tailN rest).map ((ints ds).length + ·) := by
  rcases ints_form ds with e | ⟨c, l, e, hc, hd, hl⟩
  · rw [e]; simp [bodyN, intN]
  · rw [e]
    simp only [bodyN, List.cons_append, intN, hc, hd, if_true, if_false, Option.bind_some]
    rw [digN_append hl, h]
    simp
theorem ints_no_minus (ds rest : List Int) : minN (ints ds ++ rest) = 0 := by
  rcases ints_form ds with e | ⟨c, l, e, hc, hd, hl⟩
  · rw [e]; rfl
  · rw [e]; rw [isDig_true] at hd; simp [minN]; omega
def sgn (neg : Bool) : List Int := if neg then [45] else []
theorem num_sgn (neg : Bool) (ds rest : List Int) (h : digN rest = 0) : numN (sgn neg ++ (ints ds ++ rest)) = (tailN rest).map ((sgn neg).length + (ints ds).length + ·) := by
  cases neg
  · simp only [sgn, Bool.false_eq_true, if_false, List.nil_append, numN, ints_no_minus, List.drop_zero, List.length_nil]
    rw [body_ints ds rest h]; simp; congr 1
  · simp only [sgn, if_true, List.cons_append, List.nil_append, numN, minN, List.drop_succ_cons, List.drop_zero]
    rw [body_ints ds rest h]; simp only [Option.map_map]; congr 1; funext x; simp; omega
def frac (has : Bool) (ds : List Int) : List Int := if has then 46 :: digs ds else []
def eSign (k : Int) : List Int := if k = 1 then [43] else if k = 2 then [45] else []
def eMark (upper : Bool) : Int := if upper then 69 else 101
theorem eMark_e (u : Bool) : eMark u = 101 ∨ eMark u = 69 := by cases u <;> simp [eMark]
def expo (has u : Bool) (k : Int) (ds : List Int) : List Int := if has then eMark u :: (eSign k ++ digs ds) else []
theorem sgn_eSign (k : Int) (rest : List Int) (h : sgnN rest = 0) : sgnN (eSign k ++ rest) = (eSign k).length := by
  unfold eSign
  split
  · simp [sgnN]
  · split
    · simp [sgnN]
    · simpa using h
theorem sgn_digs (ds rest : List Int) : sgnN (digs ds ++ rest) = 0 := by
  have hp := digs_pos ds
  have hd := digs_dig ds
  match h : digs ds, hp, hd with
  | c :: l, _, hd =>
    have := hd c (by simp)
    rw [isDig_true] at this
    simp [sgnN]; omega
theorem exp_expo (has u : Bool) (k : Int) (ds tail : List Int) (ht : Stops tail) : expN (expo has u k ds ++ tail) = some (expo has u k ds).length := by
  cases has
  · simpa [expo] using ht.exp
  · have hp := digs_pos ds
    simp only [expo, if_true, List.cons_append, List.append_assoc, expN, eMark_e u]
    rw [sgn_eSign k _ (sgn_digs ds tail), List.drop_append_of_le_length (Nat.le_refl _), List.drop_length, List.nil_append, digN_append (digs_dig ds), ht.dig]
    rw [if_neg (by omega)]
    simp; omega
theorem dig_expo (has u : Bool) (k : Int) (ds tail : List Int) (ht : Stops tail) : digN (expo has u k ds ++ tail) = 0 := by
  cases has
  · simpa [expo] using ht.dig
  · simp only [expo, if_true, List.cons_append]; exact digN_miss (nde (eMark_e u))
theorem tail_expo (has u : Bool) (k : Int) (ds tail : List Int) (ht : Stops tail) : tailN (expo has u k ds ++ tail) = some (expo has u k ds).length := by
  have h0 : fracN (expo has u k ds ++ tail) = some 0 := by
    cases has
    · simp only [expo, Bool.false_eq_true, if_false, List.nil_append]
      match tail, ht with
      | [], _ => rfl
      | c :: l, ht => simp [fracN, (carries_false (ht c l rfl)).2.1]
    · have : eMark u ≠ 46 := by have := eMark_e u; omega
      simp [expo, fracN, this]
  simp only [tailN, h0, Option.bind_some, List.drop_zero]
  rw [exp_expo has u k ds tail ht]; simp
theorem tail_frac (hf : Bool) (fs rest : List Int) (n : Nat) (h0 : digN rest = 0) (h1 : hf = false → tailN rest = some n) (h2 : expN rest = some n) :
    tailN (frac hf fs ++ rest) = some ((frac hf fs).length + n) := by
  cases hf
  · simpa [frac] using h1 rfl
  · have hp := digs_pos fs
    simp only [frac, if_true, List.cons_append, tailN, fracN]
    rw [digN_append (digs_dig fs), h0, if_neg (by omega)]
    simp [h2]
theorem dig_frac (hf : Bool) (fs rest : List Int) (h0 : digN rest = 0) : digN (frac hf fs ++ rest) = 0 := by
  cases hf
  · simpa [frac] using h0
  · simp only [frac, if_true, List.cons_append]; exact digN_miss nd46
/-- THE WHOLE TEXT IS SPANNED. -/
theorem num_whole (neg : Bool) (is : List Int) (hf : Bool) (fs : List Int) (he u : Bool) (k : Int) (es tail : List Int) (ht : Stops tail) :
    numN (sgn neg ++ (ints is ++ (frac hf fs ++ (expo he u k es ++ tail)))) = some ((sgn neg).length + (ints is).length + (frac hf fs).length + (expo he u k es).length) := by
  rw [num_sgn _ _ _ (dig_frac _ _ _ (dig_expo he u k es tail ht)),
    tail_frac hf fs _ _ (dig_expo he u k es tail ht) (fun _ => tail_expo he u k es tail ht) (exp_expo he u k es tail ht)]
  simp; omega
/-- CUT JUST AFTER THE POINT: refused. -/
theorem num_dot (neg : Bool) (is tail : List Int) (ht : Stops tail) : numN (sgn neg ++ (ints is ++ (46 :: tail))) = none := by
  rw [num_sgn _ _ _ (digN_miss nd46)]
  simp [tailN, fracN, ht.dig]
/-- CUT JUST AFTER THE EXPONENT's MARK AND SIGN: refused. -/
theorem num_exp (neg : Bool) (is : List Int) (hf : Bool) (fs : List Int) (u : Bool) (k : Int) (tail : List Int) (ht : Stops tail) :
    numN (sgn neg ++ (ints is ++ (frac hf fs ++ (eMark u :: (eSign k ++ tail))))) = none := by
  have h0 : digN (eMark u :: (eSign k ++ tail)) = 0 := digN_miss (nde (eMark_e u))
  have h1 : expN (eMark u :: (eSign k ++ tail)) = none := by
    simp only [expN, eMark_e u, if_true]
    rw [sgn_eSign k _ ht.sgn, List.drop_append_of_le_length (Nat.le_refl _), List.drop_length, List.nil_append, ht.dig]
    rfl
  rw [num_sgn _ _ _ (dig_frac _ _ _ h0)]
  have h2 : tailN (frac hf fs ++ (eMark u :: (eSign k ++ tail))) = none := by
    cases hf
    · have : eMark u ≠ 46 := by have := eMark_e u; omega
      simp only [frac, Bool.false_eq_true, if_false, List.nil_append, tailN, fracN, this, Option.bind_some, List.drop_zero, h1]; rfl
    · have hp := digs_pos fs
      simp only [frac, if_true, List.cons_append, tailN, fracN]
      rw [digN_append (digs_dig fs), h0, if_neg (by omega)]
      simp [h1]
  rw [h2]; rfl

/-! ### hexadecimal digits -/
def hexv (c : Int) : Option Int :=
  if 48 ≤ c ∧ c ≤ 57 then some (c - 48) else if 97 ≤ c ∧ c ≤ 102 then some (c - 87) else if 65 ≤ c ∧ c ≤ 70 then some (c - 55) else none
theorem hexv_bd {c d : Int} (h : hexv c = some d) : 0 ≤ d ∧ d ≤ 15 := by
  unfold hexv at h
  split at h
  · simp at h; omega
  · split at h
    · simp at h; omega
    · split at h
      · simp at h; omega
      · simp at h
/-- The first four bytes, read as hexadecimal digits. -/
def hexAcc (r : Int) : List Int → Option Int
  | [] => some r
  | c :: l => match hexv c with
    | some d => hexAcc (r * 16 + d) l
    | none => none
def hex4 (l : List Int) : Option Int := if 4 ≤ l.length then hexAcc 0 (l.take 4) else none

#print axioms num_whole
#print axioms num_dot
#print axioms num_exp
#print axioms numN_le
end Go.Proofs.Qxb6605243a.Plain
