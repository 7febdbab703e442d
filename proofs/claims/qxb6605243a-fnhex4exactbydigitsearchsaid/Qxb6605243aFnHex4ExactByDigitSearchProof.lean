/-
  THE SHELL OF A PROOF OF 'Rows.FnHex4ExactByDigitSearchSaid' ('example.com/utusan/utusan/zzlaws_wire_b1.FnHex4ExactByDigitSearch'), WRITTEN BY PROGRAM (proof-skeleton.mjs, third state) off the guide's own print for that function. Not trusted: Lean checks it.
  THE HOLE IS FILLED BELOW. ALL ELSE IS THE GUIDE's OWN WAY (howto/template/XProofs.lean; Derived/Test/ChunkProofs.lean for 'Below') at this function's number and types: leave it.
-/
import Derived.Test.Qxb6605243aRows
import Derived.Test.Qxb6605243aHexB
import Derived.Test.Qxb6605243aCopy
import Derived.WalkKit
import Derived.ProofKit
import Derived.OpenShut
import Derived.ShutString
import Derived.ChangeOld
import Derived.Below
namespace Go.Proofs.Qxb6605243a.fnHex4ExactByDigitSearch
open Go.ChangeShapes Go.WideShapes Go.ChangeAt Go.RowKit
open Go.ChangeMaps (open_string shut_string)
set_option linter.unusedVariables false

theorem own : ownKnob Try.prog.godebug = none := by kernel_rfl
theorem laidOut : laidOutB Try.prog = true := by kernel_rfl

/-- WHAT THE WALK IS TOLD OF A SLICE OF INTEGERS THAT CAME IN: it is nil; or it leads to a row of 'cap' cells, the numbers 'zs' (the first 'len' are its elements, the rest its spare room), each fitting its kind. -/
def IsRow (k : IntKind) (w : World) (a : Option Addr) (len cap : Nat) (zs : List Int) : Prop :=
  (a = none ∧ len = 0 ∧ cap = 0 ∧ zs = []) ∨
  ∃ x, a = some x ∧ len ≤ cap ∧ cap ≤ maxLen ∧ zs.length = cap ∧ (∀ i, i < zs.length → w.cell? (x.add i) = some (.int k (zs.getD i 0))) ∧ ∀ n ∈ zs, (Lit.int k n).wf = true

/-! ### STEP 1: THE WALK -/
theorem search_hit (c d : Int) (h0 : 0 ≤ c) (h1 : c ≤ 255) (hd : Plain.hexv c = some d) (w : World) :
    Calls Try.prog 8 #[.int .u8 c] w fun e w' => e = .returned (.tuple #[.int .i32 d, .bool true]) ∧ w' = w := by
  have h := search_any c h0 h1 w
  rw [hd] at h; exact h
theorem search_miss (c : Int) (h0 : 0 ≤ c) (h1 : c ≤ 255) (hd : Plain.hexv c = none) (w : World) :
    Calls Try.prog 8 #[.int .u8 c] w fun e w' => e = .returned (.tuple #[.int .i32 0, .bool false]) ∧ w' = w := by
  have h := search_any c h0 h1 w
  rw [hd] at h; exact h

/-- What a digit's place is worth; the weight that the law carries. -/
def mulAt : Nat → Int | 0 => 65536 | 1 => 4096 | 2 => 256 | 3 => 16 | _ => 1
def wtAt : Nat → Int | 0 => 4096 | 1 => 256 | 2 => 16 | 3 => 1 | _ => 0
theorem wt_bd (k : Nat) : 0 ≤ wtAt k ∧ wtAt k ≤ 4096 := by unfold wtAt; split <;> omega
theorem wt_next (k : Nat) (hk : k < 4) : (wtAt k) / 16 = wtAt (k + 1) := by
  match k, hk with
  | 0, _ => rfl
  | 1, _ => rfl
  | 2, _ => rfl
  | 3, _ => rfl
theorem step_at (k : Nat) (hk : k < 4) (ρ d : Int) (h0 : 0 ≤ ρ) (h1 : Hid (ρ < 16 ^ k)) (h2 : 0 ≤ d) (h3 : d ≤ 15) :
    wrap32 (ρ * mulAt k + wrap32 (d * wtAt k)) = (ρ * 16 + d) * mulAt (k + 1) := by
  have h1 := h1.out
  match k, hk with
  | 0, _ => simp [mulAt, wtAt, wrap32] at *; omega
  | 1, _ => simp [mulAt, wtAt, wrap32] at *; omega
  | 2, _ => simp [mulAt, wtAt, wrap32] at *; omega
  | 3, _ => simp [mulAt, wtAt, wrap32] at *; omega

theorem walk_big (a0 : Option Addr) (len0 cap0 : Nat) (w : World) (hbig : 1048576 < len0) (hm : len0 ≤ maxLen) :
    Calls Try.prog 3 #[.slice a0 len0 cap0] w fun e w' => e = .returned (.bool true) ∧ Below w.heap.size w w' := by
  unfold maxLen at hm
  go_enter Try.func3, Try.ntmps3
  go_wp2
  go_ret
  exact ⟨rfl, Below.refl _ _⟩

theorem walk_nil (w : World) :
    Calls Try.prog 3 #[.slice none 0 0] w fun e w' => e = .returned (.bool true) ∧ Below w.heap.size w w' := by
  have q22 : ∀ (w : World) (a : Option Addr) (n c n' c' : Nat), (binOp .neq 22 (.slice a n c) (.slice none n' c')).run Try.prog w = .ok (.bool (!a.isNone)) w := fun w a n c n' c' => run_neq_slice_nil_any w 22 5 a n c n' c' Try.underlying22
  go_enter Try.func3, Try.ntmps3
  go_wp2_with (first | (go_at_call 9; refine (zzhex4_short _ _ _ (by omega) _).mono ?_; rintro e w' ⟨rfl, rfl⟩) | go_in)
  go_ret
  exact ⟨rfl, Below.refl _ _⟩

set_option maxHeartbeats 400000 in
theorem walk_short (x : Addr) (len0 cap0 : Nat) (zs : List Int) (w : World) (hz : Hid (zs.length = len0)) (hcell : ∀ i, i < zs.length → w.cell? (x.add i) = some (.int .u8 (zs.getD i 0)))
    (h4 : len0 < 4) :
    Calls Try.prog 3 #[.slice (some x) len0 cap0] w fun e w' => e = .returned (.bool true) ∧ Below w.heap.size w w' := by
  have q22 : ∀ (w : World) (a : Option Addr) (n c n' c' : Nat), (binOp .neq 22 (.slice a n c) (.slice none n' c')).run Try.prog w = .ok (.bool (!a.isNone)) w := fun w a n c n' c' => run_neq_slice_nil_any w 22 5 a n c n' c' Try.underlying22
  obtain ⟨i0, hi, hz0, hz1, hz2⟩ := info_parts Try.info5
  have HC : Hid (∀ i, i < zs.length → w.cell? (x.add i) = some (.int .u8 (zs.getD i 0))) := hcell
  clear hcell
  have hd : decide ((4 : Int) ≤ (len0 : Int)) = false := decide_eq_false (by omega)
  go_enter Try.func3, Try.ntmps3
  go_wp2_with (first | (at_make; refine wpList_make_full _ rfl (.tmp 21) (.tmp 21) 22 rfl w.heap.size 5 i0 (.int .u8 0) 1 Try.underlying22 hi hz0 hz1 .i64 .i64 _ _ len0 rfl rfl rfl rfl (by rw [hz2]; omega) (by unfold maxLen; omega) (Nat.le_refl _) ?_; intro w1 hown hgrow; obtain ⟨cur, hcur, hcl⟩ := own_block hown) | (go_at_call 9; refine (zzhex4_short _ _ _ h4 _).mono ?_; rintro e w' ⟨rfl, rfl⟩) | (go_at_call 7; go_in) | (have _t := hcur; refine wpList_copy_splice rfl (.tmp 23) (.tmp 24) 22 22 rfl 5 Try.underlying22 Try.size5 _ _ _ _ _ _ rfl rfl w.heap.size 0 cur 5 hcur (zs.map (Value.int .u8)) (by have := hz.out; simp; omega) (fun _ => ⟨rfl, x, rfl, copy_src hgrow HC.out⟩) (by have := hz.out; simp; omega) (ints_oneCell _ _) w.heap.size w (below_made hgrow) (Nat.le_refl _) ?_; intro w2 HG hbel; clear hcur hown hgrow))
  go_ret
  exact ⟨rfl, hbel⟩

set_option maxHeartbeats 1000000 in
theorem walk_long (x : Addr) (len0 cap0 : Nat) (zs : List Int) (w : World) (hz : Hid (zs.length = len0)) (hcell : ∀ i, i < zs.length → w.cell? (x.add i) = some (.int .u8 (zs.getD i 0)))
    (hbd : ∀ i, 0 ≤ zs.getD i 0 ∧ zs.getD i 0 ≤ 255) (h4 : 4 ≤ len0) (hbig : len0 ≤ 1048576) :
    Calls Try.prog 3 #[.slice (some x) len0 cap0] w fun e w' => e = .returned (.bool true) ∧ Below w.heap.size w w' := by
  have q22 : ∀ (w : World) (a : Option Addr) (n c n' c' : Nat), (binOp .neq 22 (.slice a n c) (.slice none n' c')).run Try.prog w = .ok (.bool (!a.isNone)) w := fun w a n c n' c' => run_neq_slice_nil_any w 22 5 a n c n' c' Try.underlying22
  obtain ⟨i0, hi, hz0, hz1, hz2⟩ := info_parts Try.info5
  have HC : Hid (∀ i, i < zs.length → w.cell? (x.add i) = some (.int .u8 (zs.getD i 0))) := hcell
  clear hcell
  have hd : decide ((4 : Int) ≤ (len0 : Int)) = true := decide_eq_true (by omega)
  go_enter Try.func3, Try.ntmps3
  go_wp2_with (first | (at_make; refine wpList_make_full _ rfl (.tmp 21) (.tmp 21) 22 rfl w.heap.size 5 i0 (.int .u8 0) 1 Try.underlying22 hi hz0 hz1 .i64 .i64 _ _ len0 rfl rfl rfl rfl (by rw [hz2]; omega) (by unfold maxLen; omega) (Nat.le_refl _) ?_; intro w1 hown hgrow; obtain ⟨cur, hcur, hcl⟩ := own_block hown) | (go_at_call 7; go_in) | (have _t := hcur; refine wpList_copy_splice rfl (.tmp 23) (.tmp 24) 22 22 rfl 5 Try.underlying22 Try.size5 _ _ _ _ _ _ rfl rfl w.heap.size 0 cur 5 hcur (zs.map (Value.int .u8)) (by have := hz.out; simp; omega) (fun _ => ⟨rfl, x, rfl, copy_src hgrow HC.out⟩) (by have := hz.out; simp; omega) (ints_oneCell _ _) w.heap.size w (below_made hgrow) (Nat.le_refl _) ?_; intro w2 HG hbel; clear hcur hown hgrow))
  have hc2 := cells_copied HG (by have := hz.out; omega)
  obtain ⟨ys, hys⟩ : ∃ ys, ys = zs.take 4 := ⟨_, rfl⟩
  have hy4 : ys.length = 4 := by rw [hys]; have := hz.out; simp; omega
  have hyc : ∀ i, i < 4 → w2.cell? ⟨w.heap.size, i, none⟩ = some (.int .u8 (ys.getD i 0)) := by
    intro i hi
    rw [hc2 i (by have := hz.out; omega), hys]; simp [List.getD, hi]
  have hyb : ∀ i, 0 ≤ ys.getD i 0 ∧ ys.getD i 0 ≤ 255 := by
    intro i
    by_cases hi : i < 4
    · have := hbd i
      rw [hys]; simpa [List.getD, hi] using this
    · rw [hys]; simp [List.getD, List.getElem?_take, hi]
  have HL : Hid (ys.length = 4) := hy4
  have HY : Hid (∀ i, i < 4 → w2.cell? ⟨w.heap.size, i, none⟩ = some (.int .u8 (ys.getD i 0))) := hyc
  have HB : Hid (∀ i, 0 ≤ ys.getD i 0 ∧ ys.getD i 0 ≤ 255) := hyb
  clear hc2 HG hys hbd HC hy4 hyc hyb
  have hm2 : len0 ≤ maxLen := by unfold maxLen; omega
  go_loop [4, 5, 6, 7] (fun ok want wt i => ∃ k : Nat, ∃ ρ : Int, k ≤ 4 ∧ i = .int .i64 k ∧ ok = .bool true ∧ want = .int .i32 (ρ * mulAt k) ∧ wt = .int .i32 (wtAt k) ∧ 0 ≤ ρ ∧ Hid (ρ < 16 ^ k) ∧ Hid (Plain.hexAcc 0 ys = Plain.hexAcc ρ (ys.drop k))) (fun _ _ _ i => 4 - (intOf i).toNat)
  case atStart => exact ⟨0, 0, by omega, rfl, rfl, by simp, rfl, by omega, by simp [Hid], by simp [Hid]⟩
  case round =>
    obtain ⟨k, ρ, hk, rfl, rfl, rfl, rfl, h0, h1, H⟩ := hrel
    by_cases hlt : k < 4
    · obtain ⟨c, hcd⟩ : ∃ c, c = ys.getD k 0 := ⟨_, rfl⟩
      have hcell := HY.out k hlt
      have hb := HB.out k
      rw [← hcd] at hcell hb
      have HC : Hid (c = ys.getD k 0) := hcd
      clear hcd
      have hρ := pow16_lt hlt h1.out
      obtain ⟨v, hv⟩ : ∃ v, v = Plain.hexv c := ⟨_, rfl⟩
      cases v with
      | some d =>
        have hdb := Plain.hexv_bd hv.symm
        have HV : Hid (Plain.hexv c = some d) := hv.symm
        clear hv
        have hp := pow16 hlt h0 h1.out hdb.1 hdb.2
        have H' := hexAcc_hit H (by have := HL.out; omega) HC HV.out
        have HP : Hid (ρ * 16 + d < 16 ^ (k + 1)) := hp.2
        have hp1 := hp.1
        have hst := step_at k hlt ρ d h0 h1 hdb.1 hdb.2
        have hwt := wt_bd k
        have hwn := wt_next k hlt
        clear H h1 hp
        go_wp2_with (go_at_call 8; refine (search_hit c d (by omega) (by omega) HV.out _).mono ?_; rintro e w' ⟨rfl, rfl⟩)
        go_round
        case rel => exact ⟨k + 1, ρ * 16 + d, by omega, by go_num, rfl, by rw [hst], by rw [hwn], hp1, HP, H'⟩
        case measure => simp [intOf]; omega
      | none =>
        have HV : Hid (Plain.hexv c = none) := hv.symm
        have H' : Hid (Plain.hexAcc 0 ys = none) := hexAcc_miss H (by have := HL.out; omega) HC HV.out
        clear hv H h1
        go_wp2_with (first | (go_at_call 8; refine (search_miss c (by omega) (by omega) HV.out _).mono ?_; rintro e w' ⟨rfl, rfl⟩) | (go_at_call 9; refine (zzhex4_none _ _ _ h4 (Nat.le_refl _) hm2 ys HL.out _ HB.out HY.out H'.out).mono ?_; rintro e w' ⟨rfl, rfl⟩))
        go_ret
        exact ⟨rfl, hbel⟩
    · obtain rfl : k = 4 := by omega
      have H' : Hid (Plain.hexAcc 0 ys = some ρ) := by
        have := H.out
        rw [List.drop_of_length_le (by have := HL.out; omega)] at this
        exact this
      clear H h1
      have e1 : ρ * mulAt 4 = ρ := by simp [mulAt]
      rw [e1]
      clear e1
      go_wp2_with (go_at_call 9; refine (zzhex4_some _ _ _ h4 (Nat.le_refl _) hm2 ys HL.out _ HB.out HY.out ρ H'.out).mono ?_; rintro e w' ⟨rfl, rfl⟩)
      go_ret
      exact ⟨rfl, hbel⟩

theorem walk (a0 : Option Addr) (len0 cap0 : Nat) (z0 : List Int) (w : World) (w0 : IsRow .u8 w a0 len0 cap0 z0) :
    Calls Try.prog 3 #[.slice a0 len0 cap0] w fun e w' => e = .returned (.bool true) ∧ Below w.heap.size w w' := by
  rcases w0 with ⟨rfl, rfl, rfl, rfl⟩ | ⟨x, rfl, hl, hm, hz, hcell, hwz⟩
  · exact walk_nil w
  · by_cases hbig : 1048576 < len0
    · exact walk_big _ _ _ w hbig (by omega)
    · have hlen : (z0.take len0).length = len0 := by simp; omega
      by_cases h4 : len0 < 4
      · exact walk_short x len0 cap0 (z0.take len0) w hlen (take_cells len0 hcell) h4
      · exact walk_long x len0 cap0 (z0.take len0) w hlen (take_cells len0 hcell) (bytes_bd (take_bd len0 hwz)) (by omega) (by omega)

/-! ### THE ROW's STEP: WRITTEN OUT: LEAVE IT -/
set_option maxRecDepth 100000 in
theorem lifted (os : Os) (started : os.Started) (H : Type) (enc : TypeId × Value → H) :
    ReturnsInHanded {} Try.checked os 3 .any (Rows.fnHex4ExactByDigitSearchSpec.pre6 enc Try.prog Try.f3 Rows.fnHex4ExactByDigitSearchRow.domain false) (Rows.fnHex4ExactByDigitSearchSpec.post enc Try.prog Try.f3 false true false false) := by
  refine returnsInHanded_of_change (C := Try.checked) own started (by kernel_rfl) Try.func3
    (ChangeSpec.witness6 (enc := enc) (C := Try.checked) false ⟨#[], #[.slice none 0 0], []⟩ 8 (by kernel_rfl) (by kernel_rfl) (by kernel_rfl) (by kernel_rfl)) ?_
  intro W base args ds gs before hval0 hW hcnd _
  have hval : ∀ (j : Nat) t v, Try.f3.params[j]? = some t → args[j]? = some v → Value.okWide Try.prog W .any base t v := hval0
  have hW' := hW
  obtain ⟨p, q, hA0, hV, rfl, hfz, hnd⟩ := hW
  have hA : DataW.TrodAll enc Try.prog W 0 (fun _ => true) true Try.f3.params.toList args.toList ds p := hA0
  rw [Try.params3] at hA hval
  obtain ⟨v0, vs0, d0, ds0, p0, q0, hargs, rfl, rfl, h0, r0⟩ := trodAll_cons hA
  obtain ⟨rfl, rfl, rfl⟩ := trodAll_nil r0
  obtain rfl : args = #[v0] := by cases args; simp_all
  obtain ⟨rfl, rfl⟩ := trodVars_none hV
  obtain ⟨a0, len0, cap0, rfl⟩ := okWide_slice Try.underlying22 (hval 0 22 v0 rfl rfl)
  have k0 := h0
  have lt0 : ∀ x ∈ p0, x.block < W.heap.size := by obtain ⟨m, hm⟩ := k0; exact DataW.trod_lt m _ _ _ hm
  obtain ⟨z0, w0⟩ : ∃ zs, IsRow .u8 W a0 len0 cap0 zs := by
    obtain ⟨fuel, hf⟩ := h0
    rcases open_ints Try.underlying22 Try.underlying5 (by kernel_rfl) hf with ⟨hcs, _⟩ | ⟨x, l, c, zs, hcs, _, hl, hm, hz, _, hcell, hwz⟩
    · simp [Value.cells] at hcs
      obtain ⟨rfl, rfl, rfl⟩ := hcs
      exact ⟨[], .inl ⟨rfl, rfl, rfl, rfl⟩⟩
    · simp [Value.cells] at hcs
      obtain ⟨rfl, rfl, rfl⟩ := hcs
      exact ⟨zs, .inr ⟨_, rfl, hl, hm, by simpa using hz, hcell, hwz⟩⟩
  clear hA0 hval0
  refine (walk a0 len0 cap0 z0 W w0).mono fun e W' ⟨he, bel⟩ => ?_
  subst he
  exact ⟨_, rfl, _, _, _, [], _, [], hW', trodAll_mk1 (shut_bool Try.underlying4 _), (trodAll_cons_mk (Below.trod laidOut (by kernel_rfl) (of_decide_eq_true (by kernel_rfl)) k0 bel lt0) trodAll_mk0), rfl, bel.frame _, fun h => by cases h⟩

theorem over : Rows.fnHex4ExactByDigitSearchRow.holds Try.pinned (OpenSpec.ofChange Rows.fnHex4ExactByDigitSearchSpec) :=
  OpenClaim.holds_of_wide 3 Try.f3 rfl rfl rfl rfl rfl rfl rfl ⟨rfl, rfl, rfl, rfl, rfl⟩ rfl rfl rfl rfl rfl (by kernel_rfl) Try.func3 (by kernel_rfl)
    (of_decide_eq_true (by kernel_rfl)) (by unfold Func.isWrapper; first | (rw [if_pos (by decide +kernel)]; kernel_rfl) | (rw [if_neg (by decide +kernel)]; exact ⟨rfl, rfl⟩))
    (fun os started H enc _ => lifted os started H enc)

/-- ████ THE STATEMENT ████ -/
theorem proved : Rows.FnHex4ExactByDigitSearchSaid := over
#print axioms proved
end Go.Proofs.Qxb6605243a.fnHex4ExactByDigitSearch
