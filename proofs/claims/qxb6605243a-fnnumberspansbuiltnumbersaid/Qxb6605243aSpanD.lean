import Derived.Test.Qxb6605243aSpanB
import Derived.Test.Qxb6605243aSpanC
import Derived.Test.Qxb6605243aSpanP
import Derived.Test.Qxb6605243aNumC
namespace Go.Proofs.Qxb6605243a
open Go.ChangeShapes Go.WideShapes Go.ChangeAt Go.RowKit
set_option linter.unusedVariables false
set_option maxRecDepth 20000

section
variable (a0 a2 a4 a8 a9 : Option Addr) (l0 c0 l2 c2 l4 c4 l8 c8 l9 c9 : Nat) (neg hf he ue : Bool) (k : Int) (w : World)

theorem span_big (h : 1048576 < l0 + l2 + l4 + l8 + l9) (h0 : l0 ≤ maxLen) (h2 : l2 ≤ maxLen) (h4 : l4 ≤ maxLen) (h8 : l8 ≤ maxLen) (h9 : l9 ≤ maxLen) :
    Calls Try.prog 6 #[.slice a0 l0 c0, .bool neg, .slice a2 l2 c2, .bool hf, .slice a4 l4 c4, .bool he, .bool ue, .int .u8 k, .slice a8 l8 c8, .slice a9 l9 c9] w fun e w' => e = .returned (.bool true) ∧ Below w.heap.size w w' := by
  have K := zz_false a0 a2 a4 a8 a9 l0 c0 l2 c2 l4 c4 l8 c8 l9 c9 neg hf he ue k w h h0 h2 h4 h8 h9
  clear h h0 h2 h4 h8 h9
  go_enter Try.func6, Try.ntmps6
  go_wp2_with (go_at_call 16; refine K.mono ?_; rintro e w' ⟨rfl, rfl⟩)
  go_ret
  exact ⟨rfl, Below.refl _ _⟩
theorem span_sign (h : l0 + l2 + l4 + l8 + l9 ≤ 1048576) (hk : 2 < k) :
    Calls Try.prog 6 #[.slice a0 l0 c0, .bool neg, .slice a2 l2 c2, .bool hf, .slice a4 l4 c4, .bool he, .bool ue, .int .u8 k, .slice a8 l8 c8, .slice a9 l9 c9] w fun e w' => e = .returned (.bool true) ∧ Below w.heap.size w w' := by
  have K := zz_true a0 a2 a4 a8 a9 l0 c0 l2 c2 l4 c4 l8 c8 l9 c9 neg hf he ue k w h
  have hd : decide ((1048576 : Int) < (l9 : Int)) = false := decide_eq_false (by omega)
  go_enter Try.func6, Try.ntmps6
  go_wp2_with (go_at_call 16; refine K.mono ?_; rintro e w' ⟨rfl, rfl⟩)
  go_ret
  exact ⟨rfl, Below.refl _ _⟩
theorem span_tail (h : l0 + l2 + l4 + l8 + l9 ≤ 1048576) (hk : k ≤ 2) (z9 : List Int) (h9 : In w a9 l9 c9 z9) (hp : 0 < l9) (hc : Plain.carries (z9.getD 0 0) = true) :
    Calls Try.prog 6 #[.slice a0 l0 c0, .bool neg, .slice a2 l2 c2, .bool hf, .slice a4 l4 c4, .bool he, .bool ue, .int .u8 k, .slice a8 l8 c8, .slice a9 l9 c9] w fun e w' => e = .returned (.bool true) ∧ Below w.heap.size w w' := by
  obtain ⟨b, off, rfl, hcell⟩ := h9.plain hp
  have hc0 : w.cell? ⟨b, off, none⟩ = some (.int .u8 (z9.getD 0 0)) := hcell 0 hp
  clear hcell
  have K := zz_true a0 a2 a4 a8 (some ⟨b, off, none⟩) l0 c0 l2 c2 l4 c4 l8 c8 l9 c9 neg hf he ue k w h
  have K2 := starts_yes (z9.getD 0 0) w hc
  obtain ⟨c, hcd⟩ : ∃ c, c = z9.getD 0 0 := ⟨_, rfl⟩
  rw [← hcd] at hc0 K2
  clear hcd hc h9
  have hd : decide ((1048576 : Int) < (l9 : Int)) = false := decide_eq_false (by omega)
  have hd0 : (0 : Int) < (l9 : Int) := by omega
  go_enter Try.func6, Try.ntmps6
  go_wp2_with (first | (go_at_call 16; refine K.mono ?_; rintro e w' ⟨rfl, rfl⟩) | (go_at_call 17; refine K2.mono ?_; rintro e w' ⟨rfl, rfl⟩))
  go_ret
  exact ⟨rfl, Below.refl _ _⟩
end

/-- The text's value, once it is not empty. -/
theorem Text.shape {w0 w : World} {v : Value} {ts : List Int} (h : Text w0 w v ts) (hp : 0 < ts.length) : ∃ g cap, v = .slice (some ⟨g, 0, none⟩) ts.length cap ∧ ts.length ≤ cap ∧ cap ≤ maxLen := by
  rcases h.own.2 with ⟨_, h1⟩ | ⟨g, cap, cur, hv, _, _, h2, h3, _⟩
  · omega
  · exact ⟨g, cap, hv, h2, h3⟩
theorem snoc_pos (ts : List Int) (c : Int) : 0 < (ts ++ [c]).length := by simp
/-- The same, its length by a letter. -/
theorem Text.form {w0 w : World} {v : Value} {ts : List Int} (h : Text w0 w v ts) (hp : 0 < ts.length) : ∃ g n cap, v = .slice (some ⟨g, 0, none⟩) n cap ∧ Hid (n = ts.length) ∧ n ≤ cap ∧ cap ≤ maxLen := by
  obtain ⟨g, cap, hv, h1, h2⟩ := h.shape hp
  exact ⟨g, _, cap, hv, rfl, h1, h2⟩
theorem up_true (neg : Bool) (is fs : List Int) : Plain.sgn neg ++ Plain.ints is ++ [46] ++ Plain.digs fs = Plain.upTo neg is true fs := by simp [Plain.upTo, Plain.frac]
theorem up_false (neg : Bool) (is fs : List Int) : Plain.sgn neg ++ Plain.ints is = Plain.upTo neg is false fs := by simp [Plain.upTo, Plain.frac]
theorem whole_false (neg : Bool) (is : List Int) (hf : Bool) (fs : List Int) (u : Bool) (k : Int) (es : List Int) : Plain.upTo neg is hf fs = Plain.whole neg is hf fs false u k es := by simp [Plain.whole, Plain.expo]
theorem whole_k0 (neg : Bool) (is : List Int) (hf : Bool) (fs : List Int) (u : Bool) (es : List Int) : Plain.upTo neg is hf fs ++ [Plain.eMark u] ++ Plain.digs es = Plain.whole neg is hf fs true u 0 es := by simp [Plain.whole, Plain.expo, Plain.eSign]
theorem whole_k1 (neg : Bool) (is : List Int) (hf : Bool) (fs : List Int) (u : Bool) (es : List Int) : Plain.upTo neg is hf fs ++ [Plain.eMark u] ++ [43] ++ Plain.digs es = Plain.whole neg is hf fs true u 1 es := by simp [Plain.whole, Plain.expo, Plain.eSign]
theorem whole_k2 (neg : Bool) (is : List Int) (hf : Bool) (fs : List Int) (u : Bool) (es : List Int) : Plain.upTo neg is hf fs ++ [Plain.eMark u] ++ [45] ++ Plain.digs es = Plain.whole neg is hf fs true u 2 es := by simp [Plain.whole, Plain.expo, Plain.eSign]
theorem Text.cuts {w0 w : World} {g cap n : Nat} {ts : List Int} (h : Text w0 w (.slice (some ⟨g, 0, none⟩) n cap) ts) (hn : n = ts.length) (hb : ∀ c ∈ ts, 0 ≤ c ∧ c ≤ 255) (d : Nat) (hd : d ≤ n) : In w (some ⟨g, 0, none⟩) d cap (ts.take d) := by
  subst hn
  refine ⟨by simp; omega, ?_, fun h => by (cases h), ?_⟩
  · intro i
    by_cases hi : i < (ts.take d).length
    · have e : (ts.take d).getD i 0 = (ts.take d)[i] := by simp only [List.getD, List.getElem?_eq_getElem hi, Option.getD_some]
      rw [e]; exact hb _ (List.mem_of_mem_take (List.getElem_mem hi))
    · have e : (ts.take d).getD i 0 = 0 := by simp only [List.getD, List.getElem?_eq_none (Nat.le_of_not_lt hi), Option.getD_none]
      rw [e]; omega
  · intro x hx i hi
    cases hx
    rw [add_plain, Nat.zero_add, h.own.cellAt i (by omega)]
    simp [List.getD, hi, show i < ts.length by omega]
end Go.Proofs.Qxb6605243a
