import Derived.Test.Qxb6605337aKeys
namespace Go.Proofs.Qxb6605337a
open Go.ChangeShapes Go.WideShapes Go.ChangeAt Go.RowKit
set_option linter.unusedVariables false

theorem quiet_at {P : Program} {f : FuncId} {args : Array Value} {w : World} {s n : Nat} {v : Value}
    (h : Calls P f args (w.drewN (s + n)) fun e w' => e = .returned v ∧ ∃ m, w' = (w.drewN (s + n)).drewN m) : Calls P f args (w.drewN (s + n)) fun e w'' => e = .returned v ∧ ∃ m, w'' = w.drewN (s + m) :=
  h.mono fun _ _ ⟨he, m, hm⟩ => ⟨he, n + m, by rw [hm, World.drewN_drewN, Nat.add_assoc]⟩
theorem In.congr {w wx : World} {a : Option Addr} {n cap : Nat} {zs : List Int} (h : In w a n cap zs) (hx : ∀ a, wx.cell? a = w.cell? a) : In wx a n cap zs :=
  ⟨h.len, h.bd, h.isNil, fun x e i hi => by rw [hx]; exact h.cell x e i hi⟩

set_option maxHeartbeats 1000000 in
theorem args_some (w : World) (ba g b off n c1 c2 : Nat) (a1 a2 : Option Addr) (H1 : Heads a1 n g 0) (H2 : Heads a2 n b off) (nb : Bool) (hn1 : a1.isNone = nb) (hn2 : a2.isNone = nb) (hn : n ≤ 65536) (t s : Int) (I : Nat → Int) (A1 A2 : Nat → Option Addr) (L C1 C2 : Nat → Nat) (Z : Nat → List Int)
    (K1 : KeysAt w g 0 n I A1 L C1 Z) (K2 : KeysAt w b off n I A2 L C2 Z) (hnil : Hid (∀ i, i < n → (A1 i).isNone = (A2 i).isNone)) (hL : Hid (∀ i, i < n → L i ≤ 1048576))
    (q0 : w.cell? ⟨ba, 0, none⟩ = some (.int .u8 t)) (q1 : w.cell? ⟨ba, 1, none⟩ = some (.slice a1 n c1)) (q2 : w.cell? ⟨ba, 2, none⟩ = some (.int .u8 s)) :
    Calls Try.prog 13 #[.pointer (some ⟨ba, 0, none⟩), .int .u8 t, .slice a2 n c2, .int .u8 s] w fun e w' => e = .returned (.bool true) ∧ ∃ q, w' = w.drewN q := by
  have e27 : ∀ (w : World) (a : Option Addr) (n c n' c' : Nat), (binOp .eql 27 (.slice a n c) (.slice none n' c')).run Try.prog w = .ok (.bool a.isNone) w := fun w a n c n' c' => Lib.run_eql_slice_nil w 27 38 a n c n' c' Try.underlying27
  have e22 : ∀ (w : World) (a : Option Addr) (n c n' c' : Nat), (binOp .eql 22 (.slice a n c) (.slice none n' c')).run Try.prog w = .ok (.bool a.isNone) w := fun w a n c n' c' => Lib.run_eql_slice_nil w 22 41 a n c n' c' Try.underlying22
  have e36 : ∀ (w : World) (a : Option Addr) (n c n' c' : Nat), (binOp .eql 36 (.slice a n c) (.slice none n' c')).run Try.prog w = .ok (.bool a.isNone) w := fun w a n c n' c' => Lib.run_eql_slice_nil w 36 5 a n c n' c' Try.underlying36
  go_enter Try.func13, Try.ntmps13
  go_wp2
  clear hn1 hn2
  go_loopw [9] (fun s wr => ∃ k q : Nat, k ≤ n ∧ s = .int .i64 k ∧ wr = w.drewN q) (fun s _ => n - (intOf s).toNat)
  case atStart => exact ⟨0, 0, by omega, rfl, rfl⟩
  case round =>
    obtain ⟨k, q, hk, rfl, rfl⟩ := hrel
    by_cases hlt : k < n
    · obtain rfl := H1 (by omega)
      obtain rfl := H2 (by omega)
      have i1 := K1.id k hlt
      have s1 := K1.sec k hlt
      rw [Nat.zero_add] at i1 s1
      have i2 := K2.id k hlt
      have s2 := K2.sec k hlt
      have hnk := hnil.out k hlt
      have hl := hL.out k hlt
      have n1 := K1.inn k hlt
      have n2 := K2.inn k hlt
      obtain ⟨c, hcd⟩ : ∃ c, c = I k := ⟨_, rfl⟩
      obtain ⟨x1, hx1⟩ : ∃ c, c = A1 k := ⟨_, rfl⟩
      obtain ⟨x2, hx2⟩ : ∃ c, c = A2 k := ⟨_, rfl⟩
      obtain ⟨l, hld⟩ : ∃ c, c = L k := ⟨_, rfl⟩
      obtain ⟨y1, hy1⟩ : ∃ c, c = C1 k := ⟨_, rfl⟩
      obtain ⟨y2, hy2⟩ : ∃ c, c = C2 k := ⟨_, rfl⟩
      rw [← hcd] at i1 i2
      rw [← hx1, ← hld, ← hy1] at s1 n1
      rw [← hx2, ← hld, ← hy2] at s2 n2
      rw [← hx1, ← hx2] at hnk
      rw [← hld] at hl
      obtain ⟨nk, hk1⟩ : ∃ nk, x1.isNone = nk := ⟨_, rfl⟩
      have hk2 : x2.isNone = nk := by rw [← hnk]; exact hk1
      have hli : (k : Int) < (n : Int) := by omega
      clear hcd hx1 hx2 hld hy1 hy2 hnk
      have KS := fun (wx : World) (hx : ∀ a, wx.cell? a = w.cell? a) => same_any wx x1 x2 l y1 y2 (Z k) (n1.congr hx) (n2.congr hx) hl
      clear n1 n2
      go_wp2
      go_quiet (fail)
      go_wp2
      go_quiet (fail)
      go_wp2
      go_quiet ((go_at_call 18; refine quiet_at (KS _ ?_); intro a; simp))
      go_wp2
      go_roundw
      case rel => exact ⟨k + 1, _, by omega, by go_num, rfl⟩
      case measure => simp [intOf]; omega
    · go_wp2
      go_ret
      exact ⟨rfl, q, rfl⟩
end Go.Proofs.Qxb6605337a
