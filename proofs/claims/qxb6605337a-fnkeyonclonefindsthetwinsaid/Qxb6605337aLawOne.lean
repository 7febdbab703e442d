import Derived.Test.Qxb6605337aAny
import Derived.LaidEqlPtr
namespace Go.Proofs.Qxb6605337a
open Go.ChangeShapes Go.WideShapes Go.ChangeAt Go.RowKit
set_option linter.unusedVariables false

/-- What the walk is told of the keys that came in. -/
structure IsKeys (w : World) (ao : Option Addr) (n cap b off : Nat) (I : Nat → Int) (A : Nat → Option Addr) (L C : Nat → Nat) (Z : Nat → List Int) : Prop where
  heads : Heads ao n b off
  isNil : ao = none → n = 0 ∧ cap = 0
  len : n ≤ maxLen
  keys : KeysAt w b off n I A L C Z
  lens : ∀ i, i < n → L i ≤ maxLen
theorem lens_out {n : Nat} {L : Nat → Nat} (h : ∀ i, i < n → L i ≤ maxLen) : Hid (∀ i, i < n → L i ≤ 9223372036854775807) := by unfold maxLen at h; exact h
theorem len_out {n : Nat} (h : n ≤ maxLen) : n ≤ 9223372036854775807 := by unfold maxLen at h; exact h

theorem auth_facts {w W : World} {v0 v1 v2 : Value} (h : W = w.alloc (Obj.cells #[v0, v1, v2] 29)) :
    W.cell? ⟨w.heap.size, 0, none⟩ = some v0 ∧ W.cell? ⟨w.heap.size, 1, none⟩ = some v1 ∧ W.cell? ⟨w.heap.size, 2, none⟩ = some v2 ∧ Below w.heap.size w W := by
  subst h
  refine ⟨?_, ?_, ?_, (Below.refl _ _).alloc (Nat.le_refl _) _⟩ <;> go_simp

set_option maxHeartbeats 1000000 in
theorem one_walk (t s id : Int) (ao : Option Addr) (n cap b off : Nat) (I : Nat → Int) (A : Nat → Option Addr) (L C : Nat → Nat) (Z : Nat → List Int) (w : World) (HI : IsKeys w ao n cap b off I A L C Z) :
    Calls Try.prog 3 #[.int .u8 t, .slice ao n cap, .int .u8 s, .int .u8 id] w fun e w' => e = .returned (.bool true) ∧ Below w.heap.size w w' := by
  obtain ⟨r, hr⟩ := firstFrom_exists I id n
  have HR : Hid (FirstFrom I id 0 n r) := hr
  clear hr
  go_enter Try.func3, Try.ntmps3
  go_wp2_with fail
  refine (zz7_any w t s id ao n cap b off HI.heads (len_out HI.len) I A L C Z HI.keys (lens_out HI.lens)).mono ?_
  rintro e w' ⟨r1, rfl, hw⟩
  replace hw := hw.symm
  subst hw
  cases r1
  · go_wp2
    go_ret
    exact ⟨rfl, Below.refl _ _⟩
  go_wp2_with fail
  refine (fit_any w ao n cap b off HI.heads HI.len I A L C Z HI.keys HI.lens).mono ?_
  rintro e w' ⟨r2, rfl, hfit, hw⟩
  replace hw := hw.symm
  subst hw
  cases r2
  · clear hfit
    go_wp2
    go_ret
    exact ⟨rfl, Below.refl _ _⟩
  obtain ⟨hn, hl⟩ := hfit rfl
  have HL : Hid (∀ i, i < n → L i ≤ 1048576) := hl
  clear hfit hl
  go_wp2_with fail
  refine (clone_any w ao n cap b off HI.isNil HI.heads hn I A L C Z HI.keys HL.out).mono ?_
  rintro e w1 ⟨a1, c1, g1, A1, C1, rfl, H1, hb1, hz1⟩
  have HZ1 : Hid (a1 = none → c1 = 0) := hz1
  clear hz1
  go_wp2_with fail
  refine (build_any w1 t s a1 n c1 g1 0 (fun h => ⟨by have := H1.heads; by_cases h0 : n = 0; exact h0; exact absurd (h.symm.trans (this (by omega))) (by simp), HZ1.out h⟩) H1.heads hn I A1 L C1 Z H1.keys HL.out).mono ?_
  rintro e w2 ⟨a2, c2, g2, A2, C2, rfl, H2, hb2, hz2⟩
  clear hz2
  go_wp2_with fail
  obtain ⟨W, hW⟩ : ∃ W, W = w2.alloc (Obj.cells #[Value.int IntKind.u8 t, Value.slice a2 n c2, Value.int IntKind.u8 s] 29) := ⟨_, rfl⟩
  obtain ⟨q0, q1, q2, hbW⟩ := auth_facts hW
  rw [← hW]
  clear hW
  have H2W := H2.below hbW (Nat.le_refl _)
  have H1W := (H1.below hb2 (Nat.le_refl _)).below hbW (Nat.le_refl _)
  have hbA : Below w.heap.size w W := hb1.trans ((hb2.trans (hbW.mono hb2.size)).mono hb1.size)
  obtain ⟨nb, hn1⟩ : ∃ nb, a2.isNone = nb := ⟨_, rfl⟩
  have hn2 : a1.isNone = nb := by rw [← H2.nilEq]; exact hn1
  have KK := zzkey_any W w2.heap.size g2 n c2 a2 H2W.heads hn I A2 L C2 Z H2W.keys id q1 r HR.out
  have KB := back_any W a1 n c1 g1 0 H1W.heads hn I A1 L C1 Z H1W.keys id r HR
  have KS := args_some W w2.heap.size g2 g1 0 n c2 c1 a2 a1 H2W.heads H1W.heads nb hn1 hn2 hn t s I A2 A1 L C2 C1 Z H2W.keys H1W.keys (fun i hi => H2.isNil i hi) HL q0 q1 q2
  clear H1 H2 hb1 hb2 hbW HZ1 hn1 hn2 H1W
  have hh := H2W.heads
  clear H2W
  cases r with
  | none =>
    simp only [keyV, wantV] at KK KB
    go_wp2_with (first | (go_at_call 11; refine KK.mono ?_; rintro e w' ⟨rfl, rfl⟩) | (go_at_call 12; refine KB.mono ?_; rintro e w' ⟨rfl, rfl⟩) | (go_at_call 13; refine KS.mono ?_; rintro e w' ⟨rfl, q, rfl⟩))
    go_ret
    exact ⟨rfl, below_drewN hbA q⟩
  | some i =>
    obtain rfl := hh (by have := HR.out.2.1; omega)
    have hin : i < n := HR.out.2.1
    obtain ⟨i0, hi, _, _, _⟩ := info_parts Try.info38
    have e31 : ∀ (w : World) (a : Addr), (binOp .eql 31 (.pointer (some a)) (.pointer (some a))).run Try.prog w = .ok (.bool true) w := fun w a => run_eql_ptr_same w a Try.underlying31 hi
    simp only [keyV, wantV] at KK KB
    go_wp2_with (first | (go_at_call 11; refine KK.mono ?_; rintro e w' ⟨rfl, rfl⟩) | (go_at_call 12; refine KB.mono ?_; rintro e w' ⟨rfl, rfl⟩) | (go_at_call 13; refine KS.mono ?_; rintro e w' ⟨rfl, q, rfl⟩))
    go_ret
    exact ⟨rfl, below_drewN hbA q⟩
end Go.Proofs.Qxb6605337a
