import Derived.Test.Qxb6605243aNumA
namespace Go.Proofs.Qxb6605243a
open Go.ChangeShapes Go.WideShapes Go.ChangeAt Go.RowKit
set_option linter.unusedVariables false

theorem isDigit_any (c : Int) (w : World) :
    Calls Try.prog 22 #[.int .u8 c] w fun e w' => e = .returned (.bool (Plain.isDig c)) ∧ w' = w := by
  rcases (show (48 ≤ c ∧ c ≤ 57) ∨ c < 48 ∨ 57 < c from by omega) with h | h | h
  · have hd : decide (c ≤ 57) = true := decide_eq_true (by omega)
    rw [Plain.isDig_true.2 h]
    go_enter Try.func22, Try.ntmps22
    go_wp2
    go_ret
    exact ⟨rfl, rfl⟩
  · rw [Plain.isDig_false.2 (by omega)]
    go_enter Try.func22, Try.ntmps22
    go_wp2
    go_ret
    exact ⟨rfl, rfl⟩
  · have hd : decide (c ≤ 57) = false := decide_eq_false (by omega)
    rw [Plain.isDig_false.2 (by omega)]
    go_enter Try.func22, Try.ntmps22
    go_wp2
    go_ret
    exact ⟨rfl, rfl⟩

/-- What the table answers. -/
def stepI (s : Nat) (c : Int) : Int := match Plain.step s c with | some t => (t : Int) | none => -1

theorem accepting_any (s : Nat) (hs : s ≤ 8) (w : World) :
    Calls Try.prog 14 #[.int .i64 (s : Int)] w fun e w' => e = .returned (.bool (Plain.acc s)) ∧ w' = w := by
  rcases (show s = 0 ∨ s = 1 ∨ s = 2 ∨ s = 3 ∨ s = 4 ∨ s = 5 ∨ s = 6 ∨ s = 7 ∨ s = 8 from by omega) with rfl | rfl | rfl | rfl | rfl | rfl | rfl | rfl | rfl
  all_goals
    go_enter Try.func14, Try.ntmps14
    go_wp2
    go_ret
    exact ⟨rfl, rfl⟩

theorem eqB (c k : Int) : (c = k) = ((c == k) = true) := by simp

theorem or_right {c a b : Int} (h : (c == a) = true ∨ (c == b) = true) (hn : ¬ c = a) : (c == b) = true := by
  rcases h with h | h
  · exact absurd (by simpa using h) hn
  · exact h

set_option maxHeartbeats 1000000 in
theorem step_any (s : Nat) (hs : s ≤ 8) (c : Int) (w : World) :
    Calls Try.prog 13 #[.int .i64 (s : Int), .int .u8 c] w fun e w' => e = .returned (.int .i64 (stepI s c)) ∧ w' = w := by
  rcases (show s = 0 ∨ s = 1 ∨ s = 2 ∨ s = 3 ∨ s = 4 ∨ s = 5 ∨ s = 6 ∨ s = 7 ∨ s = 8 from by omega) with rfl | rfl | rfl | rfl | rfl | rfl | rfl | rfl | rfl
  all_goals
    go_enter Try.func13, Try.ntmps13
    go_wp2_with (go_at_call 22; refine (isDigit_any _ _).mono ?_; rintro e w' ⟨rfl, rfl⟩)
    all_goals go_ret
    all_goals refine ⟨ret_i64 ?_, rfl⟩
    all_goals (have q := fun k : Int => eqB c k; simp only [stepI, Plain.step, *, if_true, if_false, Bool.false_eq_true, true_or, false_or, or_self]; try rfl)
    all_goals first | (rw [or_right (‹(c == 101) = true ∨ (c == 69) = true›) ‹¬ c = 101›]; rfl) | (rw [or_right (‹(c == 43) = true ∨ (c == 45) = true›) ‹¬ c = 43›]; rfl)
end Go.Proofs.Qxb6605243a
