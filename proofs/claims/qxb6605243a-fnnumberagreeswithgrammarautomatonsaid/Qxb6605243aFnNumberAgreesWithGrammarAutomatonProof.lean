/-
  THE SHELL OF A PROOF OF 'Rows.FnNumberAgreesWithGrammarAutomatonSaid' ('example.com/utusan/utusan/zzlaws_wire_b1.FnNumberAgreesWithGrammarAutomaton'), WRITTEN BY PROGRAM (proof-skeleton.mjs, third state) off the guide's own print for that function. Not trusted: Lean checks it.
  THE HOLE IS FILLED BELOW. ALL ELSE IS THE GUIDE's OWN WAY (howto/template/XProofs.lean; Derived/Test/ChunkProofs.lean for 'Below') at this function's number and types: leave it.
-/
import Derived.Test.Qxb6605243aRows
import Derived.Test.Qxb6605243aNumC
import Derived.Test.Qxb6605243aAuto
import Derived.Test.Qxb6605243aCopy
import Derived.WalkKit
import Derived.ProofKit
import Derived.OpenShut
import Derived.ShutString
import Derived.ChangeOld
import Derived.Below
namespace Go.Proofs.Qxb6605243a.fnNumberAgreesWithGrammarAutomaton
open Go.ChangeShapes Go.WideShapes Go.ChangeAt Go.RowKit
open Go.ChangeMaps (open_string shut_string)
set_option linter.unusedVariables false

theorem own : ownKnob Try.prog.godebug = none := by kernel_rfl
theorem laidOut : laidOutB Try.prog = true := by kernel_rfl

/-- WHAT THE WALK IS TOLD OF A SLICE OF INTEGERS THAT CAME IN: it is nil; or it leads to a row of 'cap' cells, the numbers 'zs' (the first 'len' are its elements, the rest its spare room), each fitting its kind. -/
def IsRow (k : IntKind) (w : World) (a : Option Addr) (len cap : Nat) (zs : List Int) : Prop :=
  (a = none ∧ len = 0 ∧ cap = 0 ∧ zs = []) ∨
  ∃ x, a = some x ∧ len ≤ cap ∧ cap ≤ maxLen ∧ zs.length = cap ∧ (∀ i, i < zs.length → w.cell? (x.add i) = some (.int k (zs.getD i 0))) ∧ ∀ n ∈ zs, (Lit.int k n).wf = true

/-! ### STEP 1: THE WALK -/
theorem walk_big (a0 : Option Addr) (len0 cap0 : Nat) (a1 : Int) (w : World) (hbig : 1048576 < len0) (hm : len0 ≤ maxLen) :
    Calls Try.prog 5 #[.slice a0 len0 cap0, .int .i64 a1] w fun e w' => e = .returned (.bool true) ∧ Below w.heap.size w w' := by
  unfold maxLen at hm
  go_enter Try.func5, Try.ntmps5
  go_wp2
  go_ret
  exact ⟨rfl, Below.refl _ _⟩
theorem walk_out (a0 : Option Addr) (len0 cap0 : Nat) (a1 : Int) (w : World) (hs : len0 ≤ 1048576) (ho : a1 < 0 ∨ (len0 : Int) ≤ a1) :
    Calls Try.prog 5 #[.slice a0 len0 cap0, .int .i64 a1] w fun e w' => e = .returned (.bool true) ∧ Below w.heap.size w w' := by
  rcases (show a1 < 0 ∨ (0 ≤ a1 ∧ (len0 : Int) ≤ a1) from by omega) with h | ⟨h1, h2⟩
  · go_enter Try.func5, Try.ntmps5
    go_wp2
    go_ret
    exact ⟨rfl, Below.refl _ _⟩
  · have hd : decide ((len0 : Int) ≤ a1) = true := decide_eq_true h2
    go_enter Try.func5, Try.ntmps5
    go_wp2
    go_ret
    exact ⟨rfl, Below.refl _ _⟩

/-- What the automaton's stop says of the number. -/
theorem stop_num {zs : List Int} {p k σ : Nat} (H : Plain.run 0 (zs.drop p) = (Plain.run σ (zs.drop k)).map fun c => (k - p) + c) (h : Plain.run σ (zs.drop k) = if Plain.acc σ then some 0 else none) :
    Plain.numN (zs.drop p) = if Plain.acc σ then some (k - p) else none := by
  rw [← Plain.run0, H, h]
  cases Plain.acc σ <;> simp

set_option maxHeartbeats 1000000 in
theorem walk_in (x : Addr) (n cap0 p : Nat) (zs : List Int) (w : World) (hz : Hid (zs.length = n)) (hcell : ∀ i, i < zs.length → w.cell? (x.add i) = some (.int .u8 (zs.getD i 0)))
    (hbd : Hid (∀ i, 0 ≤ zs.getD i 0 ∧ zs.getD i 0 ≤ 255)) (hn : n ≤ 1048576) (hp : p < n) :
    Calls Try.prog 5 #[.slice (some x) n cap0, .int .i64 (p : Int)] w fun e w' => e = .returned (.bool true) ∧ Below w.heap.size w w' := by
  have q22 : ∀ (w : World) (a : Option Addr) (n c n' c' : Nat), (binOp .neq 22 (.slice a n c) (.slice none n' c')).run Try.prog w = .ok (.bool (!a.isNone)) w := fun w a n c n' c' => run_neq_slice_nil_any w 22 5 a n c n' c' Try.underlying22
  obtain ⟨i0, hi, hz0, hz1, hz2⟩ := info_parts Try.info5
  have HC : Hid (∀ i, i < zs.length → w.cell? (x.add i) = some (.int .u8 (zs.getD i 0))) := hcell
  clear hcell
  have hd : decide ((n : Int) ≤ (p : Int)) = false := decide_eq_false (by omega)
  go_enter Try.func5, Try.ntmps5
  go_wp2_with (first | (at_make; refine wpList_make_full _ rfl (.tmp 31) (.tmp 31) 22 rfl w.heap.size 5 i0 (.int .u8 0) 1 Try.underlying22 hi hz0 hz1 .i64 .i64 _ _ n rfl rfl rfl rfl (by rw [hz2]; omega) (by unfold maxLen; omega) (Nat.le_refl _) ?_; intro w1 hown hgrow; obtain ⟨cur, hcur, hcl⟩ := own_block hown) | (go_at_call 12; go_in) | (have _t := hcur; refine wpList_copy_splice rfl (.tmp 33) (.tmp 34) 22 22 rfl 5 Try.underlying22 Try.size5 _ _ _ _ _ _ rfl rfl w.heap.size 0 cur 5 hcur (zs.map (Value.int .u8)) (by have := hz.out; simp; omega) (fun _ => ⟨rfl, x, rfl, copy_src hgrow HC.out⟩) (by have := hz.out; simp; omega) (ints_oneCell _ _) w.heap.size w (below_made hgrow) (Nat.le_refl _) ?_; intro w2 HG hbel; clear hcur hown hgrow))
  have HZ : Bytes w2 w.heap.size n zs := ⟨hz.out, hbd.out, by have := cells_copied HG (by have := hz.out; omega); rw [hz.out] at this; exact this⟩
  clear HG HC hbd
  go_loop [6, 7, 8] (fun s i _nx => ∃ k σ : Nat, p ≤ k ∧ k ≤ n ∧ i = .int .i64 k ∧ σ ≤ 8 ∧ s = .int .i64 σ ∧ Hid (Plain.run 0 (zs.drop p) = (Plain.run σ (zs.drop k)).map fun c => (k - p) + c)) (fun _ i _ => n - (intOf i).toNat)
  case atStart => exact ⟨p, 0, Nat.le_refl _, by omega, rfl, by omega, rfl, by simp [Hid]⟩
  case round =>
    obtain ⟨k, σ, hpk, hkn, rfl, hσ, rfl, H⟩ := hrel
    by_cases hlt : k < n
    · obtain ⟨c, hcd⟩ : ∃ c, c = zs.getD k 0 := ⟨_, rfl⟩
      have hcell := HZ.cell k hlt
      have hdr := HZ.drop hlt
      rw [← hcd] at hcell hdr
      have HD : Hid (zs.drop k = c :: zs.drop (k + 1)) := hdr
      clear hcd hdr
      have K : ∀ wx, Calls Try.prog 13 #[.int .i64 (σ : Int), .int .u8 c] wx fun e w' => e = .returned (.int .i64 (stepI σ c)) ∧ w' = wx := fun wx => step_any σ hσ c wx
      cases hst : Plain.step σ c with
      | some t =>
        have ht := Plain.step_lt hst
        have e1 : stepI σ c = (t : Int) := by simp [stepI, hst]
        rw [e1] at K
        have H' : Hid (Plain.run 0 (zs.drop p) = (Plain.run t (zs.drop (k + 1))).map fun c => ((k + 1) - p) + c) := by
          unfold Hid; rw [H.out, HD.out, Plain.run_go hst, Option.map_map]; congr 1; funext x; simp; omega
        clear H HD hst e1
        go_wp2_with (go_at_call 13; refine (K _).mono ?_; rintro e w' ⟨rfl, rfl⟩)
        go_round
        case rel => exact ⟨k + 1, t, by omega, by omega, by go_num, ht, rfl, H'⟩
        case measure => simp [intOf]; omega
      | none =>
        have e1 : stepI σ c = -1 := by simp [stepI, hst]
        rw [e1] at K
        have H' := stop_num H.out (by rw [HD.out, Plain.run_stop hst])
        clear H HD hst e1
        cases ha : Plain.acc σ with
        | true =>
          rw [ha] at H'
          have KA : ∀ wx, Calls Try.prog 14 #[.int .i64 (σ : Int)] wx fun e w' => e = .returned (.bool true) ∧ w' = wx := fun wx => by rw [← ha]; exact accepting_any σ hσ wx
          have HN : Hid (Plain.numN (zs.drop p) = some (k - p)) := by simp at H'; exact H'
          have hkp : p + (k - p) = k := by omega
          clear ha H'
          go_wp2_with (first | (go_at_call 13; refine (K _).mono ?_; rintro e w' ⟨rfl, rfl⟩) | (go_at_call 14; refine (KA _).mono ?_; rintro e w' ⟨rfl, rfl⟩) | (go_at_call 15; refine (zznumber_yes _ _ _ _ _ hn hp zs _ HZ HN.out).mono ?_; rintro e w3 ⟨rfl, hb3⟩))
          go_ret
          exact ⟨rfl, hbel.trans (hb3.mono hbel.size)⟩
        | false =>
          rw [ha] at H'
          have KA : ∀ wx, Calls Try.prog 14 #[.int .i64 (σ : Int)] wx fun e w' => e = .returned (.bool false) ∧ w' = wx := fun wx => by rw [← ha]; exact accepting_any σ hσ wx
          have HN : Hid (Plain.numN (zs.drop p) = none) := by simp at H'; exact H'
          clear ha H'
          go_wp2_with (first | (go_at_call 13; refine (K _).mono ?_; rintro e w' ⟨rfl, rfl⟩) | (go_at_call 14; refine (KA _).mono ?_; rintro e w' ⟨rfl, rfl⟩) | (go_at_call 15; refine (zznumber_no _ _ _ _ hn hp zs _ HZ HN.out).mono ?_; rintro e w3 ⟨rfl, hb3⟩))
          go_ret
          exact ⟨rfl, hbel.trans (hb3.mono hbel.size)⟩
    · obtain rfl : k = n := by omega
      have H' := stop_num H.out (by rw [HZ.drop_end (Nat.le_refl _), Plain.run_nil])
      clear H
      cases ha : Plain.acc σ with
      | true =>
        rw [ha] at H'
        have KA : ∀ wx, Calls Try.prog 14 #[.int .i64 (σ : Int)] wx fun e w' => e = .returned (.bool true) ∧ w' = wx := fun wx => by rw [← ha]; exact accepting_any σ hσ wx
        have HN : Hid (Plain.numN (zs.drop p) = some (k - p)) := by simp at H'; exact H'
        have hkp : p + (k - p) = k := by omega
        clear ha H'
        go_wp2_with (first | (go_at_call 14; refine (KA _).mono ?_; rintro e w' ⟨rfl, rfl⟩) | (go_at_call 15; refine (zznumber_yes _ _ _ _ _ hn hp zs _ HZ HN.out).mono ?_; rintro e w3 ⟨rfl, hb3⟩))
        go_ret
        exact ⟨rfl, hbel.trans (hb3.mono hbel.size)⟩
      | false =>
        rw [ha] at H'
        have KA : ∀ wx, Calls Try.prog 14 #[.int .i64 (σ : Int)] wx fun e w' => e = .returned (.bool false) ∧ w' = wx := fun wx => by rw [← ha]; exact accepting_any σ hσ wx
        have HN : Hid (Plain.numN (zs.drop p) = none) := by simp at H'; exact H'
        clear ha H'
        go_wp2_with (first | (go_at_call 14; refine (KA _).mono ?_; rintro e w' ⟨rfl, rfl⟩) | (go_at_call 15; refine (zznumber_no _ _ _ _ hn hp zs _ HZ HN.out).mono ?_; rintro e w3 ⟨rfl, hb3⟩))
        go_ret
        exact ⟨rfl, hbel.trans (hb3.mono hbel.size)⟩

theorem walk (a0 : Option Addr) (len0 cap0 : Nat) (z0 : List Int) (a1 : Int) (w : World) (w0 : IsRow .u8 w a0 len0 cap0 z0) (w1 : (Lit.int .i64 a1).wf = true) :
    Calls Try.prog 5 #[.slice a0 len0 cap0, .int .i64 a1] w fun e w' => e = .returned (.bool true) ∧ Below w.heap.size w w' := by
  rcases w0 with ⟨rfl, rfl, rfl, rfl⟩ | ⟨x, rfl, hl, hm, hz, hcell, hwz⟩
  · exact walk_out none 0 0 a1 w (by omega) (by omega)
  · by_cases hbig : 1048576 < len0
    · exact walk_big _ _ _ _ w hbig (by omega)
    · by_cases ho : a1 < 0 ∨ (len0 : Int) ≤ a1
      · exact walk_out _ _ _ a1 w (by omega) ho
      · have hlen : (z0.take len0).length = len0 := by simp; omega
        obtain ⟨p, rfl⟩ := Int.eq_ofNat_of_zero_le (show 0 ≤ a1 by omega)
        exact walk_in x len0 cap0 p (z0.take len0) w hlen (take_cells len0 hcell) (bytes_bd (take_bd len0 hwz)) (by omega) (by omega)

/-! ### THE ROW's STEP: WRITTEN OUT: LEAVE IT -/
set_option maxRecDepth 100000 in
theorem lifted (os : Os) (started : os.Started) (H : Type) (enc : TypeId × Value → H) :
    ReturnsInHanded {} Try.checked os 5 .any (Rows.fnNumberAgreesWithGrammarAutomatonSpec.pre6 enc Try.prog Try.f5 Rows.fnNumberAgreesWithGrammarAutomatonRow.domain false) (Rows.fnNumberAgreesWithGrammarAutomatonSpec.post enc Try.prog Try.f5 false true false false) := by
  refine returnsInHanded_of_change (C := Try.checked) own started (by kernel_rfl) Try.func5
    (ChangeSpec.witness6 (enc := enc) (C := Try.checked) false ⟨#[], #[.slice none 0 0, .int .i64 0], []⟩ 8 (by kernel_rfl) (by kernel_rfl) (by kernel_rfl) (by kernel_rfl)) ?_
  intro W base args ds gs before hval0 hW hcnd _
  have hval : ∀ (j : Nat) t v, Try.f5.params[j]? = some t → args[j]? = some v → Value.okWide Try.prog W .any base t v := hval0
  have hW' := hW
  obtain ⟨p, q, hA0, hV, rfl, hfz, hnd⟩ := hW
  have hA : DataW.TrodAll enc Try.prog W 0 (fun _ => true) true Try.f5.params.toList args.toList ds p := hA0
  rw [Try.params5] at hA hval
  obtain ⟨v0, vs0, d0, ds0, p0, q0, hargs, rfl, rfl, h0, r0⟩ := trodAll_cons hA
  obtain ⟨v1, vs1, d1, ds1, p1, q1, rfl, rfl, rfl, h1, r1⟩ := trodAll_cons r0
  obtain ⟨rfl, rfl, rfl⟩ := trodAll_nil r1
  obtain rfl : args = #[v0, v1] := by cases args; simp_all
  obtain ⟨rfl, rfl⟩ := trodVars_none hV
  obtain ⟨a0, len0, cap0, rfl⟩ := okWide_slice Try.underlying22 (hval 0 22 v0 rfl rfl)
  have k0 := h0
  have lt0 : ∀ x ∈ p0, x.block < W.heap.size := by obtain ⟨m, hm⟩ := k0; exact DataW.trod_lt m _ _ _ hm
  obtain ⟨z0, w0⟩ : ∃ zs, IsRow .u8 W a0 len0 cap0 zs := by
    obtain ⟨fuel, hf⟩ := h0
    rcases open_ints Try.underlying22 Try.underlying5 (by kernel_rfl) hf with ⟨hcs, _⟩ | ⟨x, l, c, zs, hcs, _, hl, hm, hz, _, hcell, hwz⟩
    · simp [Value.cells] at hcs
      obtain ⟨rfl, rfl, rfl⟩ := hcs
      exact ⟨[], .inl ⟨rfl, rfl, rfl, rfl⟩⟩
    · simp [Value.cells] at hcs
      obtain ⟨rfl, rfl, rfl⟩ := hcs
      exact ⟨zs, .inr ⟨_, rfl, hl, hm, by simpa using hz, hcell, hwz⟩⟩
  obtain ⟨a1, rfl, rfl, rfl, w1⟩ := open_int Try.underlying3 (hval 1 3 v1 rfl rfl) h1
  clear hA0 hval0
  refine (walk a0 len0 cap0 z0 a1 W w0 w1).mono fun e W' ⟨he, bel⟩ => ?_
  subst he
  exact ⟨_, rfl, _, _, _, [], _, [], hW', trodAll_mk1 (shut_bool Try.underlying4 _), (trodAll_cons_mk (Below.trod laidOut (by kernel_rfl) (of_decide_eq_true (by kernel_rfl)) k0 bel lt0) (trodAll_cons_mk (shut_int Try.underlying3 w1) trodAll_mk0)), rfl, bel.frame _, fun h => by cases h⟩

theorem over : Rows.fnNumberAgreesWithGrammarAutomatonRow.holds Try.pinned (OpenSpec.ofChange Rows.fnNumberAgreesWithGrammarAutomatonSpec) :=
  OpenClaim.holds_of_wide 5 Try.f5 rfl rfl rfl rfl rfl rfl rfl ⟨rfl, rfl, rfl, rfl, rfl⟩ rfl rfl rfl rfl rfl (by kernel_rfl) Try.func5 (by kernel_rfl)
    (of_decide_eq_true (by kernel_rfl)) (by unfold Func.isWrapper; first | (rw [if_pos (by decide +kernel)]; kernel_rfl) | (rw [if_neg (by decide +kernel)]; exact ⟨rfl, rfl⟩))
    (fun os started H enc _ => lifted os started H enc)

/-- ████ THE STATEMENT ████ -/
theorem proved : Rows.FnNumberAgreesWithGrammarAutomatonSaid := over
#print axioms proved
end Go.Proofs.Qxb6605243a.fnNumberAgreesWithGrammarAutomaton
