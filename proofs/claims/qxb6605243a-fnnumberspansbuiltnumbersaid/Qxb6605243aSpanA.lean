import Derived.Test.Qxb6605243aCopy
import Derived.Test.Qxb6605243aAuto
import Derived.Laws.AppendOwnNone
namespace Go.Proofs.Qxb6605243a
open Go.ChangeShapes Go.WideShapes Go.ChangeAt Go.RowKit
set_option linter.unusedVariables false

/-- A slice of bytes that came in: its elements zs. -/
structure In (w : World) (a : Option Addr) (n cap : Nat) (zs : List Int) : Prop where
  len : zs.length = n
  bd : ∀ i, 0 ≤ zs.getD i 0 ∧ zs.getD i 0 ≤ 255
  isNil : a = none → n = 0 ∧ cap = 0
  cell : ∀ x, a = some x → ∀ i, i < n → w.cell? (x.add i) = some (.int .u8 (zs.getD i 0))
theorem In.below {w w' : World} {a : Option Addr} {n cap B : Nat} {zs : List Int} (h : In w a n cap zs) (hb : Below B w w') (hB : w.heap.size ≤ B) : In w' a n cap zs :=
  ⟨h.len, h.bd, h.isNil, fun x hx i hi => by
    have hc := h.cell x hx i hi
    rw [hb.cell (Nat.lt_of_lt_of_le (World.block_lt_of_cell? _ _ hc) hB)]; exact hc⟩
theorem In.plain {w : World} {a : Option Addr} {n cap : Nat} {zs : List Int} (h : In w a n cap zs) (hn : 0 < n) :
    ∃ b off, a = some ⟨b, off, none⟩ ∧ ∀ i, i < n → w.cell? ⟨b, off + i, none⟩ = some (.int .u8 (zs.getD i 0)) := by
  cases a with
  | none => have := (h.isNil rfl).1; omega
  | some x =>
    have hl := h.len
    obtain ⟨b, off, rfl, hc⟩ := plain_addr (w := w) (x := x) (zs := zs) (by omega) (by rw [hl]; exact h.cell x rfl)
    exact ⟨b, off, rfl, by rw [hl] at hc; exact hc⟩
theorem In.src {w : World} {a : Option Addr} {n cap : Nat} {zs : List Int} (h : In w a n cap zs) : ∀ ad, a = some ad → ∀ j u, (zs.map (Value.int .u8))[j]? = some u → w.cell? (ad.add j) = some u := by
  intro ad had j u hu
  have hj : j < zs.length := by simpa using (List.getElem?_eq_some_iff.1 hu).1
  have e : u = .int .u8 (zs.getD j 0) := by
    simp [hj] at hu
    simp [List.getD, hj, ← hu]
  rw [e]
  exact h.cell ad had j (by have := h.len; omega)

/-- The text that is being built: the bytes ts, in memory of the call's own (blocks from w0's end on); nothing below has turned. -/
structure Text (w0 w : World) (v : Value) (ts : List Int) : Prop where
  own : w.ownsRow w0.heap.size 5 1 v ts.length (ts.map (Value.int .u8))
  below : Below w0.heap.size w0 w
theorem Text.start (w : World) : Text w w (.slice none 0 0) [] := ⟨World.ownsRow_nil _ _ _ _, Below.refl _ _⟩
theorem Text.next {w0 w w1 : World} {v v' : Value} {ts : List Int} {c : Int} (h : Text w0 w v ts) (o : Obj) (hown : w1.ownsRow w0.heap.size 5 1 v' (ts.length + 1) (ts.map (Value.int .u8) ++ [.int .u8 c])) (hg : (w.alloc o).grownBy w1 v.ownBlock) :
    Text w0 w1 v' (ts ++ [c]) := by
  have hs := h.below.size
  refine ⟨by simpa using hown, (h.below.alloc hs o).grown hg (by simp; omega) ?_⟩
  intro k hk
  exact (h.own.lt k hk).1

theorem one_oneCell (k : IntKind) (n : Int) : ∀ u ∈ [Value.int k n], u.oneCell' = true := by
  intro u hu; simp at hu; subst hu; rfl

theorem zz_true (v0 v2 v4 v8 v9 : Option Addr) (l0 c0 l2 c2 l4 c4 l8 c8 l9 c9 : Nat) (b1 b3 b5 b6 : Bool) (k : Int) (w : World) (h : l0 + l2 + l4 + l8 + l9 ≤ 1048576) :
    Calls Try.prog 16 #[.slice v0 l0 c0, .bool b1, .slice v2 l2 c2, .bool b3, .slice v4 l4 c4, .bool b5, .bool b6, .int .u8 k, .slice v8 l8 c8, .slice v9 l9 c9] w fun e w' => e = .returned (.bool true) ∧ w' = w := by
  go_enter Try.func16, Try.ntmps16
  go_wp2
  go_ret
  exact ⟨rfl, rfl⟩
theorem zz_false (v0 v2 v4 v8 v9 : Option Addr) (l0 c0 l2 c2 l4 c4 l8 c8 l9 c9 : Nat) (b1 b3 b5 b6 : Bool) (k : Int) (w : World) (h : 1048576 < l0 + l2 + l4 + l8 + l9)
    (h0 : l0 ≤ maxLen) (h2 : l2 ≤ maxLen) (h4 : l4 ≤ maxLen) (h8 : l8 ≤ maxLen) (h9 : l9 ≤ maxLen) :
    Calls Try.prog 16 #[.slice v0 l0 c0, .bool b1, .slice v2 l2 c2, .bool b3, .slice v4 l4 c4, .bool b5, .bool b6, .int .u8 k, .slice v8 l8 c8, .slice v9 l9 c9] w fun e w' => e = .returned (.bool false) ∧ w' = w := by
  unfold maxLen at h0 h2 h4 h8 h9
  go_enter Try.func16, Try.ntmps16
  go_wp2
  all_goals go_ret
  all_goals exact ⟨rfl, rfl⟩

theorem starts_yes (c : Int) (w : World) (h : Plain.carries c = true) :
    Calls Try.prog 17 #[.int .u8 c] w fun e w' => e = .returned (.bool true) ∧ w' = w := by
  have K : ∀ wx, Calls Try.prog 22 #[.int .u8 c] wx fun e w' => e = .returned (.bool (Plain.isDig c)) ∧ w' = wx := fun wx => isDigit_any c wx
  cases hd : Plain.isDig c with
  | true =>
    rw [hd] at K
    clear h
    go_enter Try.func17, Try.ntmps17
    go_wp2_with (go_at_call 22; refine (K _).mono ?_; rintro e w' ⟨rfl, rfl⟩)
    go_ret
    exact ⟨rfl, rfl⟩
  | false =>
    rw [hd] at K
    cases h46 : (c == 46) with
    | true =>
      clear h hd
      go_enter Try.func17, Try.ntmps17
      go_wp2_with (go_at_call 22; refine (K _).mono ?_; rintro e w' ⟨rfl, rfl⟩)
      go_ret
      exact ⟨rfl, rfl⟩
    | false =>
      cases h101 : (c == 101) with
      | true =>
        clear h hd
        go_enter Try.func17, Try.ntmps17
        go_wp2_with (go_at_call 22; refine (K _).mono ?_; rintro e w' ⟨rfl, rfl⟩)
        go_ret
        exact ⟨rfl, rfl⟩
      | false =>
        cases h69 : (c == 69) with
        | true =>
          clear h hd
          go_enter Try.func17, Try.ntmps17
          go_wp2_with (go_at_call 22; refine (K _).mono ?_; rintro e w' ⟨rfl, rfl⟩)
          go_ret
          exact ⟨rfl, rfl⟩
        | false =>
          cases h43 : (c == 43) with
          | true =>
            clear h hd
            go_enter Try.func17, Try.ntmps17
            go_wp2_with (go_at_call 22; refine (K _).mono ?_; rintro e w' ⟨rfl, rfl⟩)
            go_ret
            exact ⟨rfl, rfl⟩
          | false =>
            have h45 : (c == 45) = true := by
              unfold Plain.carries at h
              rw [hd, h46, h101, h69, h43] at h
              simpa using h
            clear h hd
            go_enter Try.func17, Try.ntmps17
            go_wp2_with (go_at_call 22; refine (K _).mono ?_; rintro e w' ⟨rfl, rfl⟩)
            go_ret
            exact ⟨rfl, rfl⟩
theorem starts_no (c : Int) (w : World) (h : Plain.carries c = false) :
    Calls Try.prog 17 #[.int .u8 c] w fun e w' => e = .returned (.bool false) ∧ w' = w := by
  have K : ∀ wx, Calls Try.prog 22 #[.int .u8 c] wx fun e w' => e = .returned (.bool (Plain.isDig c)) ∧ w' = wx := fun wx => isDigit_any c wx
  obtain ⟨hd, a1, a2, a3, a4, a5⟩ := Plain.carries_false h
  rw [hd] at K
  have h46 : (c == 46) = false := by simpa using a1
  have h101 : (c == 101) = false := by simpa using a2
  have h69 : (c == 69) = false := by simpa using a3
  have h43 : (c == 43) = false := by simpa using a4
  have h45 : (c == 45) = false := by simpa using a5
  clear h hd a1 a2 a3 a4 a5
  go_enter Try.func17, Try.ntmps17
  go_wp2_with (go_at_call 22; refine (K _).mono ?_; rintro e w' ⟨rfl, rfl⟩)
  go_ret
  exact ⟨rfl, rfl⟩
end Go.Proofs.Qxb6605243a
