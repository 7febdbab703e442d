/-
  THE SHELL OF A PROOF OF 'Rows.FnIsDigitsIsAllAsciiDigitBytesSaid' ('example.com/vestledger/vestledger/zzlaws_internal_decimal_b1.FnIsDigitsIsAllAsciiDigitBytes'), WRITTEN BY PROGRAM (proof-skeleton.mjs) off the guide's own print for that function. Not trusted: Lean checks it.
  THE HOLE IS FILLED BELOW. ALL ELSE IS THE GUIDE's TEMPLATE (howto/template/XProofs.lean) at this function's number and types: leave it.
-/
import Derived.Test.Qxb6605318aRows
import Derived.Test.Qxb6605318aDig
import Derived.WalkKit
import Derived.ProofKit
import Derived.OpenShut
import Derived.ShutString
namespace Go.Proofs.Qxb6605318a.fnIsDigitsIsAllAsciiDigitBytes
open Go.ChangeShapes Go.WideShapes Go.ChangeAt Go.RowKit
open Go.ChangeMaps (open_string shut_string)
set_option linter.unusedVariables false      -- a walk need not use every 'w<i>' (that an integer argument fits its kind)

theorem own : ownKnob Try.prog.godebug = none := by kernel_rfl

/-! ### STEP 1: THE WALK -/
theorem byte_hit (c : Nat) (h : 48 ≤ c ∧ c ≤ 57) (w : World) : Calls Try.prog 15 #[.int .u8 (c : Int)] w fun e w' => e = .returned (.bool true) ∧ w' = w := by
  have K := isDigitByte_any (c : Int) w
  rw [decide_eq_true (show (48 : Int) ≤ c ∧ (c : Int) ≤ 57 by omega)] at K; exact K
theorem byte_miss (c : Nat) (h : ¬ (48 ≤ c ∧ c ≤ 57)) (w : World) : Calls Try.prog 15 #[.int .u8 (c : Int)] w fun e w' => e = .returned (.bool false) ∧ w' = w := by
  have K := isDigitByte_any (c : Int) w
  rw [decide_eq_false (show ¬ ((48 : Int) ≤ c ∧ (c : Int) ≤ 57) by omega)] at K; exact K

theorem walk_big (s : ByteArray) (hs : s.size ≤ maxLen) (w : World) (h : 1048576 < s.size) :
    Calls Try.prog 5 #[.string s] w fun e w' => e = .returned (.bool true) ∧ Grown w w' := by
  unfold maxLen at hs
  go_enter Try.func5, Try.ntmps5
  go_wp2
  go_ret
  exact ⟨rfl, Grown.refl _⟩

theorem fit_any (s : ByteArray) (w : World) (h : s.size ≤ 1048576) : Calls Try.prog 14 #[.string s] w fun e w' => e = .returned (.bool true) ∧ w' = w := by
  go_enter Try.func14, Try.ntmps14
  go_wp2
  go_ret
  exact ⟨rfl, rfl⟩

set_option maxHeartbeats 400000 in
theorem walk_small (s : ByteArray) (w : World) (h : s.size ≤ 1048576) :
    Calls Try.prog 5 #[.string s] w fun e w' => e = .returned (.bool true) ∧ Grown w w' := by
  have KF := fit_any s w h
  go_enter Try.func5, Try.ntmps5
  go_wp2_with (go_at_call 14; refine KF.mono ?_; rintro e w' ⟨rfl, rfl⟩)
  clear KF
  go_loop [3, 4] (fun t i => ∃ k c : Nat, k ≤ s.size ∧ i = .int .i64 k ∧ t = .int .i64 c ∧ c ≤ k ∧ Hid (c = k ↔ digsTo s k)) (fun _ i => s.size - (intOf i).toNat)
  case atStart => exact ⟨0, 0, by omega, rfl, rfl, by omega, ⟨fun _ => digsTo_zero s, fun _ => rfl⟩⟩
  case round =>
    obtain ⟨k, c, hk, rfl, rfl, hck, H⟩ := hrel
    by_cases hlt : k < s.size
    · by_cases hd : 48 ≤ (s[k]'hlt).toNat ∧ (s[k]'hlt).toNat ≤ 57
      · have H' : Hid (c + 1 = k + 1 ↔ digsTo s (k + 1)) := ⟨fun e => digsTo_succ (H.out.1 (by omega)) hlt hd, fun e => by have := H.out.2 (fun m hm => e m (by omega)); omega⟩
        have K := byte_hit _ hd
        clear H hd
        go_wp2_with (go_at_call 15; refine (K _).mono ?_; rintro e w' ⟨rfl, rfl⟩)
        go_round
        case rel => exact ⟨k + 1, c + 1, by omega, by go_num, by go_num, by omega, H'⟩
        case measure => simp [intOf]; omega
      · have H' : Hid (c = k + 1 ↔ digsTo s (k + 1)) := ⟨fun e => by omega, fun e => absurd e (not_digs hlt (by omega) hd)⟩
        have K := byte_miss _ hd
        clear H hd
        go_wp2_with (go_at_call 15; refine (K _).mono ?_; rintro e w' ⟨rfl, rfl⟩)
        go_round
        case rel => exact ⟨k + 1, c, by omega, by go_num, rfl, by omega, H'⟩
        case measure => simp [intOf]; omega
    · have H' : Hid (c = s.size ↔ digsTo s s.size) := by have e : k = s.size := by omega
                                                         rw [← e]; exact H.out
      have hcs : c ≤ s.size := by omega
      clear H
      by_cases h0 : s.size = 0
      · have K := fun wx => zz_no s wx (by omega)
        have hd0 : ¬ (0 : Int) < (s.size : Int) := by omega
        clear h0
        go_wp2_with (go_at_call 16; refine (K _).mono ?_; rintro e w' ⟨rfl, p, rfl⟩)
        go_ret
        exact ⟨rfl, grown_iter _ _ _⟩
      · have hd0 : (0 : Int) < (s.size : Int) := by omega
        by_cases hc : c = s.size
        · have K := fun wx => zz_yes s wx (by omega) (H'.out.1 hc)
          have hb : ((c : Int) == (s.size : Int)) = true := by rw [hc]; simp
          clear hc h0
          go_wp2_with (go_at_call 16; refine (K _).mono ?_; rintro e w' ⟨rfl, p, rfl⟩)
          go_ret
          exact ⟨rfl, grown_iter _ _ _⟩
        · have K := fun wx => zz_no s wx (fun hh => hc (H'.out.2 hh.2))
          have hb : ((c : Int) == (s.size : Int)) = false := by simp; omega
          clear hc h0
          go_wp2_with (go_at_call 16; refine (K _).mono ?_; rintro e w' ⟨rfl, p, rfl⟩)
          go_ret
          exact ⟨rfl, grown_iter _ _ _⟩

theorem walk (a0 : ByteArray) (w0 : a0.size ≤ maxLen) (w : World) :
    Calls Try.prog 5 #[.string a0] w fun e w' => e = .returned (.bool true) ∧ Grown w w' := by
  by_cases h : 1048576 < a0.size
  · exact walk_big a0 w0 w h
  · exact walk_small a0 w (by omega)

/-! ### THE ROW's STEP: WRITTEN OUT: LEAVE IT -/
set_option maxRecDepth 100000 in
theorem lifted (os : Os) (started : os.Started) (H : Type) (enc : TypeId × Value → H) :
    ReturnsInHanded {} Try.checked os 5 .any (Rows.fnIsDigitsIsAllAsciiDigitBytesSpec.pre6 enc Try.prog Try.f5 Rows.fnIsDigitsIsAllAsciiDigitBytesRow.domain false) (Rows.fnIsDigitsIsAllAsciiDigitBytesSpec.post enc Try.prog Try.f5 false true false false) := by
  refine returnsInHanded_of_change (C := Try.checked) own started (by kernel_rfl) Try.func5
    (ChangeSpec.witness6 (enc := enc) (C := Try.checked) false ⟨#[], #[.string ByteArray.empty], []⟩ 8 (by kernel_rfl) (by kernel_rfl) (by kernel_rfl) (by kernel_rfl)) ?_
  intro W base args ds gs before hval0 hW hcnd _
  have hval : ∀ (j : Nat) t v, Try.f5.params[j]? = some t → args[j]? = some v → Value.okWide Try.prog W .any base t v := hval0
  have hW' := hW
  obtain ⟨p, q, hA0, hV, rfl, hfz, hnd⟩ := hW
  have hA : DataW.TrodAll enc Try.prog W 0 (fun _ => true) true Try.f5.params.toList args.toList ds p := hA0
  rw [Try.params5] at hA hval
  obtain ⟨v0, vs0, d0, ds0, p0, q0, hargs, rfl, rfl, h0, r0⟩ := trodAll_cons hA
  obtain ⟨rfl, rfl, rfl⟩ := trodAll_nil r0
  obtain rfl : args = #[v0] := by cases args; simp_all
  obtain ⟨rfl, rfl⟩ := trodVars_none hV
  obtain ⟨a0, rfl, rfl, rfl, w0⟩ := open_string Try.underlying9 (hval 0 9 v0 rfl rfl) h0
  clear hA0 hval0
  simp only [List.append_nil] at hW'
  refine (walk a0 w0 W).mono fun e W' ⟨he, hg⟩ => ?_
  subst he
  exact ⟨_, rfl, post_of_same (pa := []) (pv := []) hW' (fun _ _ _ => (trodAll_cons_mk (shut_bool Try.underlying4 _) trodAll_mk0)) (fun sp _ => (trodAll_cons_mk (shut_string Try.underlying9 w0) trodAll_mk0)) (fun _ _ => rfl) rfl
    (hg.frame _) hg.2.1 (ok_one (by kernel_rfl) rfl (okWide_bool_mk Try.underlying4 _))⟩

theorem over : Rows.fnIsDigitsIsAllAsciiDigitBytesRow.holds Try.pinned (OpenSpec.ofChange Rows.fnIsDigitsIsAllAsciiDigitBytesSpec) :=
  OpenClaim.holds_of_wide 5 Try.f5 rfl rfl rfl rfl rfl rfl rfl ⟨rfl, rfl, rfl, rfl, rfl⟩ rfl rfl rfl rfl rfl (by kernel_rfl) Try.func5 (by kernel_rfl)
    (of_decide_eq_true (by kernel_rfl)) (by unfold Func.isWrapper; first | (rw [if_pos (by decide +kernel)]; kernel_rfl) | (rw [if_neg (by decide +kernel)]; exact ⟨rfl, rfl⟩))
    (fun os started H enc _ => lifted os started H enc)

/-- ████ THE STATEMENT ████ -/
theorem proved : Rows.FnIsDigitsIsAllAsciiDigitBytesSaid :=
  over
#print axioms proved
end Go.Proofs.Qxb6605318a.fnIsDigitsIsAllAsciiDigitBytes
