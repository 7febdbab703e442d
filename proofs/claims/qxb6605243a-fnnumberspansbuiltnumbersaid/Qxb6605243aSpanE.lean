import Derived.Test.Qxb6605243aSpanD
namespace Go.Proofs.Qxb6605243a
open Go.ChangeShapes Go.WideShapes Go.ChangeAt Go.RowKit
set_option linter.unusedVariables false
set_option maxRecDepth 20000
set_option linter.unusedSimpArgs false

set_option maxHeartbeats 2000000 in
theorem span_main (a0 a2 a4 a8 a9 : Option Addr) (l0 c0 l2 c2 l4 c4 l8 c8 l9 c9 : Nat) (neg hf he ue : Bool) (k : Int) (w : World) (z0 z2 z4 z8 z9 : List Int)
    (I0 : In w a0 l0 c0 z0) (I2 : In w a2 l2 c2 z2) (I4 : In w a4 l4 c4 z4) (I8 : In w a8 l8 c8 z8) (I9 : In w a9 l9 c9 z9)
    (h : l0 + l2 + l4 + l8 + l9 ≤ 1048576) (hk0 : 0 ≤ k) (hk : k ≤ 2) (ht : Plain.Stops z9) :
    Calls Try.prog 6 #[.slice a0 l0 c0, .bool neg, .slice a2 l2 c2, .bool hf, .slice a4 l4 c4, .bool he, .bool ue, .int .u8 k, .slice a8 l8 c8, .slice a9 l9 c9] w fun e w' => e = .returned (.bool true) ∧ Below w.heap.size w w' := by
  have K := (zz_true a0 a2 a4 a8 a9 l0 c0 l2 c2 l4 c4 l8 c8 l9 c9 neg hf he ue k w h).mono (fun e w' h => (⟨h.1, h.2.symm⟩ : e = .returned (.bool true) ∧ w = w'))
  have hd : decide ((1048576 : Int) < (l9 : Int)) = false := decide_eq_false (by omega)
  obtain ⟨i0, hi, hz0, hz1, hz2⟩ := info_parts Try.info5
  go_enter Try.func6, Try.ntmps6
  go_upto_region 9 with (go_at_call 16; refine K.mono ?_; rintro e w' ⟨rfl, rfl⟩)
  clear K
  go_cut [91] (fun s91 wx => w = wx ∧ s91 = .bool false)
  case first => as_aux_lemma =>
    by_cases hp : l9 = 0
    · have hd0 : ¬ (0 : Int) < (l9 : Int) := by omega
      clear hp
      go_wp2_with (fail)
      all_goals go_meet
      case rel => exact ⟨rfl, rfl⟩
    · obtain ⟨b, off, rfl, hcell⟩ := I9.plain (by omega)
      have hc0 : w.cell? ⟨b, off, none⟩ = some (.int .u8 (z9.getD 0 0)) := hcell 0 (by omega)
      have hcf : Plain.carries (z9.getD 0 0) = false := by
        have hl := I9.len
        match z9, hl, ht with
        | [], hl, _ => simp at hl; omega
        | c :: l, _, ht => exact ht c l rfl
      have K2 := (starts_no (z9.getD 0 0) w hcf).mono (fun e w' h => (⟨h.1, h.2.symm⟩ : e = .returned (.bool false) ∧ w = w'))
      obtain ⟨c, hcd⟩ : ∃ c, c = z9.getD 0 0 := ⟨_, rfl⟩
      rw [← hcd] at hc0 K2
      clear hcd hcf hcell
      have hd0 : (0 : Int) < (l9 : Int) := by omega
      go_wp2_with (go_at_call 17; refine K2.mono ?_; rintro e w' ⟨rfl, rfl⟩)
      all_goals go_meet
      case rel => exact ⟨rfl, rfl⟩
  case rest => as_aux_lemma =>
    obtain ⟨rfl, rfl⟩ := hcut
    go_upto_if 92 with fail
    go_cut [21] (fun s21 wx => Text w wx s21 (Plain.sgn neg))
    case first => as_aux_lemma =>
      cases neg
      · go_wp2_with (fail)
        all_goals go_meet
        case rel => exact Text.start _
      · go_wp2_with (at_builtin; refine wpList_append_own _ rfl (.tmp 93) (.tmp 94) 22 rfl _ 5 i0 (.int .u8 0) 1 1 Try.underlying22 hi hz0 hz1 hz2 rfl (by decide) _ _ _ rfl ((Text.start w).own.alloc _) ⟨_, 0, none⟩ 1 1 [_] rfl rfl (cell_one_new _ _ _) (one_oneCell _ _) (by unfold maxLen; simp) (by simp) (by simp) ?_; intro v' w1 hown' hgrow' _)
        all_goals go_meet
        case rel => exact (Text.start w).next _ hown' hgrow'
    case rest => as_aux_lemma =>
      have hT := hcut
      clear hcut
      have hw := Plain.whole_len neg z2 hf z4 he ue k z8
      have hs1 := Plain.sgn_len neg
      have hs2 := Plain.ints_len z2
      have e2 := I2.len
      have e4 := I4.len
      have e8 := I8.len
      have HB0 : Hid ((Plain.sgn neg).length ≤ 4194304) := by unfold Hid; omega
      have HB1 : Hid ((Plain.sgn neg ++ Plain.ints z2).length ≤ 2097152) := by unfold Hid; simp; omega
      have HB2 : Hid ((Plain.upTo neg z2 hf z4).length ≤ 2097152) := by unfold Hid; omega
      have HB3 : Hid ((Plain.upTo neg z2 hf z4 ++ [Plain.eMark ue]).length ≤ 2097153) := by unfold Hid; simp; omega
      have HW : Hid (0 < (Plain.whole neg z2 hf z4 he ue k z8).length ∧ (Plain.whole neg z2 hf z4 he ue k z8).length ≤ l2 + l4 + l8 + 7) := ⟨hw.1, by have := hw.2.2; omega⟩
      clear hw hs1 hs2 e2 e4 e8
      go_upto_if 99 with (go_at_call 18; refine (int_any w _ _ _ hT a2 l2 c2 z2 I2 (by omega) HB0.out).mono ?_; rintro e w1 ⟨v1, rfl, hT1⟩)
      clear hT
      go_cut [21, 22] (fun s21 s22 wx => Text w wx s21 (Plain.upTo neg z2 hf z4) ∧ ∃ d : Nat, s22 = .int .i64 d ∧ Hid (hf = true → d = (Plain.sgn neg ++ Plain.ints z2).length + 1))
      case first => as_aux_lemma =>
        cases hf
        · go_wp2_with (fail)
          all_goals go_meet
          case rel => exact ⟨by rw [← up_false]; exact hT1, 0, rfl, fun h => by cases h⟩
        · go_wp2_with (first | (at_builtin; have _t := hT1; refine wpList_append_own _ rfl (.tmp 100) (.tmp 101) 22 rfl w.heap.size 5 i0 (.int .u8 0) 1 1 Try.underlying22 hi hz0 hz1 hz2 rfl (by decide) _ _ _ rfl (hT1.own.alloc _) ⟨_, 0, none⟩ 1 1 [_] rfl rfl (cell_one_new _ _ _) (one_oneCell _ _) (by have := HB1.out; unfold maxLen; (try simp only [List.length_append, List.length_cons, List.length_nil] at this ⊢); omega) (by have := HB1.out; (try simp only [List.length_append, List.length_cons, List.length_nil] at this ⊢); omega) (by have := hT1.below.size; simp; omega) ?_; intro v' w1 hown' hgrow' _; have hT2 := hT1.next _ hown' hgrow'; clear hown' hgrow'; obtain ⟨gx, nx, cx, hvx, HN, hlx, hmx⟩ := hT2.form (snoc_pos _ _); rw [hvx] at hT2 ⊢; clear hvx) | (go_at_call 19; refine (run_any w _ _ _ hT2 a4 l4 c4 z4 I4 (by omega) (by have := HB1.out; (try simp only [List.length_append, List.length_cons, List.length_nil] at this ⊢); omega)).mono ?_; rintro e w3 ⟨v3, rfl, hT3⟩))
          all_goals go_meet
          case rel => exact ⟨by rw [← up_true]; exact hT3, _, rfl, fun _ => by have := HN.out; simp at this ⊢; omega⟩
      case rest => as_aux_lemma =>
        obtain ⟨hT, d, rfl, HD⟩ := hcut
        clear hT1
        go_upto_if 108 with fail
        go_cut [21, 23] (fun s21 s23 wx => Text w wx s21 (Plain.whole neg z2 hf z4 he ue k z8) ∧ ∃ d2 : Nat, s23 = .int .i64 d2 ∧ Hid (he = true → d2 = (Plain.upTo neg z2 hf z4).length + 1 + (Plain.eSign k).length))
        case first => as_aux_lemma =>
          cases he
          · go_wp2_with (fail)
            all_goals go_meet
            case rel => exact ⟨by rw [← whole_false]; exact hT, 0, rfl, fun h => by cases h⟩
          cases ue <;> rcases (show k = 0 ∨ k = 1 ∨ k = 2 from by omega) with rfl | rfl | rfl
          · as_aux_lemma =>
            go_wp2_with (first | (at_builtin; have _t := hT; refine wpList_append_own _ rfl (.tmp 113) (.tmp 114) 22 rfl w.heap.size 5 i0 (.int .u8 0) 1 1 Try.underlying22 hi hz0 hz1 hz2 rfl (by decide) _ _ _ rfl (hT.own.alloc _) ⟨_, 0, none⟩ 1 1 [_] rfl rfl (cell_one_new _ _ _) (one_oneCell _ _) (by have := HB2.out; unfold maxLen; (try simp only [List.length_append, List.length_cons, List.length_nil] at this ⊢); omega) (by have := HB2.out; (try simp only [List.length_append, List.length_cons, List.length_nil] at this ⊢); omega) (by have := hT.below.size; simp; omega) ?_; intro v' w1 hown' hgrow' _; have hT1 := hT.next _ hown' hgrow'; clear hown' hgrow'; obtain ⟨gx, nx, cx, hvx, HN1, hlx, hmx⟩ := hT1.form (snoc_pos _ _); rw [hvx] at hT1 ⊢; clear hvx) | (go_at_call 19; refine (run_any w _ _ _ hT1 a8 l8 c8 z8 I8 (by omega) (by have := HB2.out; (try simp only [List.length_append, List.length_cons, List.length_nil] at this ⊢); omega)).mono ?_; rintro e w3 ⟨v3, rfl, hT3⟩))
            all_goals go_meet
            case rel => exact ⟨by rw [← whole_k0]; exact hT3, _, rfl, fun _ => by have := HN1.out; simp [Plain.eSign] at this ⊢; omega⟩
          · as_aux_lemma =>
            go_wp2_with (first | (at_builtin; have _t := hT; refine wpList_append_own _ rfl (.tmp 113) (.tmp 114) 22 rfl w.heap.size 5 i0 (.int .u8 0) 1 1 Try.underlying22 hi hz0 hz1 hz2 rfl (by decide) _ _ _ rfl (hT.own.alloc _) ⟨_, 0, none⟩ 1 1 [_] rfl rfl (cell_one_new _ _ _) (one_oneCell _ _) (by have := HB2.out; unfold maxLen; (try simp only [List.length_append, List.length_cons, List.length_nil] at this ⊢); omega) (by have := HB2.out; (try simp only [List.length_append, List.length_cons, List.length_nil] at this ⊢); omega) (by have := hT.below.size; simp; omega) ?_; intro v' w1 hown' hgrow' _; have hT1 := hT.next _ hown' hgrow'; clear hown' hgrow'; obtain ⟨gx, nx, cx, hvx, HN1, hlx, hmx⟩ := hT1.form (snoc_pos _ _); rw [hvx] at hT1 ⊢; clear hvx) | (at_builtin; have _t := hT1; refine wpList_append_own _ rfl (.tmp 118) (.tmp 119) 22 rfl w.heap.size 5 i0 (.int .u8 0) 1 1 Try.underlying22 hi hz0 hz1 hz2 rfl (by decide) _ _ _ rfl (hT1.own.alloc _) ⟨_, 0, none⟩ 1 1 [_] rfl rfl (cell_one_new _ _ _) (one_oneCell _ _) (by have := HB2.out; unfold maxLen; (try simp only [List.length_append, List.length_cons, List.length_nil] at this ⊢); omega) (by have := HB2.out; (try simp only [List.length_append, List.length_cons, List.length_nil] at this ⊢); omega) (by have := hT1.below.size; simp; omega) ?_; intro v' w1 hown' hgrow' _; have hT2 := hT1.next _ hown' hgrow'; clear hown' hgrow' hT1; obtain ⟨gx, nx, cx, hvx, HN2, hlx, hmx⟩ := hT2.form (snoc_pos _ _); rw [hvx] at hT2 ⊢; clear hvx) | (go_at_call 19; refine (run_any w _ _ _ hT2 a8 l8 c8 z8 I8 (by omega) (by have := HB2.out; (try simp only [List.length_append, List.length_cons, List.length_nil] at this ⊢); omega)).mono ?_; rintro e w3 ⟨v3, rfl, hT3⟩))
            all_goals go_meet
            case rel => exact ⟨by rw [← whole_k1]; exact hT3, _, rfl, fun _ => by have := HN2.out; simp [Plain.eSign] at this ⊢; omega⟩
          · as_aux_lemma =>
            go_wp2_with (first | (at_builtin; have _t := hT; refine wpList_append_own _ rfl (.tmp 113) (.tmp 114) 22 rfl w.heap.size 5 i0 (.int .u8 0) 1 1 Try.underlying22 hi hz0 hz1 hz2 rfl (by decide) _ _ _ rfl (hT.own.alloc _) ⟨_, 0, none⟩ 1 1 [_] rfl rfl (cell_one_new _ _ _) (one_oneCell _ _) (by have := HB2.out; unfold maxLen; (try simp only [List.length_append, List.length_cons, List.length_nil] at this ⊢); omega) (by have := HB2.out; (try simp only [List.length_append, List.length_cons, List.length_nil] at this ⊢); omega) (by have := hT.below.size; simp; omega) ?_; intro v' w1 hown' hgrow' _; have hT1 := hT.next _ hown' hgrow'; clear hown' hgrow'; obtain ⟨gx, nx, cx, hvx, HN1, hlx, hmx⟩ := hT1.form (snoc_pos _ _); rw [hvx] at hT1 ⊢; clear hvx) | (at_builtin; have _t := hT1; refine wpList_append_own _ rfl (.tmp 123) (.tmp 124) 22 rfl w.heap.size 5 i0 (.int .u8 0) 1 1 Try.underlying22 hi hz0 hz1 hz2 rfl (by decide) _ _ _ rfl (hT1.own.alloc _) ⟨_, 0, none⟩ 1 1 [_] rfl rfl (cell_one_new _ _ _) (one_oneCell _ _) (by have := HB2.out; unfold maxLen; (try simp only [List.length_append, List.length_cons, List.length_nil] at this ⊢); omega) (by have := HB2.out; (try simp only [List.length_append, List.length_cons, List.length_nil] at this ⊢); omega) (by have := hT1.below.size; simp; omega) ?_; intro v' w1 hown' hgrow' _; have hT2 := hT1.next _ hown' hgrow'; clear hown' hgrow' hT1; obtain ⟨gx, nx, cx, hvx, HN2, hlx, hmx⟩ := hT2.form (snoc_pos _ _); rw [hvx] at hT2 ⊢; clear hvx) | (go_at_call 19; refine (run_any w _ _ _ hT2 a8 l8 c8 z8 I8 (by omega) (by have := HB2.out; (try simp only [List.length_append, List.length_cons, List.length_nil] at this ⊢); omega)).mono ?_; rintro e w3 ⟨v3, rfl, hT3⟩))
            all_goals go_meet
            case rel => exact ⟨by rw [← whole_k2]; exact hT3, _, rfl, fun _ => by have := HN2.out; simp [Plain.eSign] at this ⊢; omega⟩
          · as_aux_lemma =>
            go_wp2_with (first | (at_builtin; have _t := hT; refine wpList_append_own _ rfl (.tmp 110) (.tmp 111) 22 rfl w.heap.size 5 i0 (.int .u8 0) 1 1 Try.underlying22 hi hz0 hz1 hz2 rfl (by decide) _ _ _ rfl (hT.own.alloc _) ⟨_, 0, none⟩ 1 1 [_] rfl rfl (cell_one_new _ _ _) (one_oneCell _ _) (by have := HB2.out; unfold maxLen; (try simp only [List.length_append, List.length_cons, List.length_nil] at this ⊢); omega) (by have := HB2.out; (try simp only [List.length_append, List.length_cons, List.length_nil] at this ⊢); omega) (by have := hT.below.size; simp; omega) ?_; intro v' w1 hown' hgrow' _; have hT1 := hT.next _ hown' hgrow'; clear hown' hgrow'; obtain ⟨gx, nx, cx, hvx, HN1, hlx, hmx⟩ := hT1.form (snoc_pos _ _); rw [hvx] at hT1 ⊢; clear hvx) | (go_at_call 19; refine (run_any w _ _ _ hT1 a8 l8 c8 z8 I8 (by omega) (by have := HB2.out; (try simp only [List.length_append, List.length_cons, List.length_nil] at this ⊢); omega)).mono ?_; rintro e w3 ⟨v3, rfl, hT3⟩))
            all_goals go_meet
            case rel => exact ⟨by rw [← whole_k0]; exact hT3, _, rfl, fun _ => by have := HN1.out; simp [Plain.eSign] at this ⊢; omega⟩
          · as_aux_lemma =>
            go_wp2_with (first | (at_builtin; have _t := hT; refine wpList_append_own _ rfl (.tmp 110) (.tmp 111) 22 rfl w.heap.size 5 i0 (.int .u8 0) 1 1 Try.underlying22 hi hz0 hz1 hz2 rfl (by decide) _ _ _ rfl (hT.own.alloc _) ⟨_, 0, none⟩ 1 1 [_] rfl rfl (cell_one_new _ _ _) (one_oneCell _ _) (by have := HB2.out; unfold maxLen; (try simp only [List.length_append, List.length_cons, List.length_nil] at this ⊢); omega) (by have := HB2.out; (try simp only [List.length_append, List.length_cons, List.length_nil] at this ⊢); omega) (by have := hT.below.size; simp; omega) ?_; intro v' w1 hown' hgrow' _; have hT1 := hT.next _ hown' hgrow'; clear hown' hgrow'; obtain ⟨gx, nx, cx, hvx, HN1, hlx, hmx⟩ := hT1.form (snoc_pos _ _); rw [hvx] at hT1 ⊢; clear hvx) | (at_builtin; have _t := hT1; refine wpList_append_own _ rfl (.tmp 118) (.tmp 119) 22 rfl w.heap.size 5 i0 (.int .u8 0) 1 1 Try.underlying22 hi hz0 hz1 hz2 rfl (by decide) _ _ _ rfl (hT1.own.alloc _) ⟨_, 0, none⟩ 1 1 [_] rfl rfl (cell_one_new _ _ _) (one_oneCell _ _) (by have := HB2.out; unfold maxLen; (try simp only [List.length_append, List.length_cons, List.length_nil] at this ⊢); omega) (by have := HB2.out; (try simp only [List.length_append, List.length_cons, List.length_nil] at this ⊢); omega) (by have := hT1.below.size; simp; omega) ?_; intro v' w1 hown' hgrow' _; have hT2 := hT1.next _ hown' hgrow'; clear hown' hgrow' hT1; obtain ⟨gx, nx, cx, hvx, HN2, hlx, hmx⟩ := hT2.form (snoc_pos _ _); rw [hvx] at hT2 ⊢; clear hvx) | (go_at_call 19; refine (run_any w _ _ _ hT2 a8 l8 c8 z8 I8 (by omega) (by have := HB2.out; (try simp only [List.length_append, List.length_cons, List.length_nil] at this ⊢); omega)).mono ?_; rintro e w3 ⟨v3, rfl, hT3⟩))
            all_goals go_meet
            case rel => exact ⟨by rw [← whole_k1]; exact hT3, _, rfl, fun _ => by have := HN2.out; simp [Plain.eSign] at this ⊢; omega⟩
          · as_aux_lemma =>
            go_wp2_with (first | (at_builtin; have _t := hT; refine wpList_append_own _ rfl (.tmp 110) (.tmp 111) 22 rfl w.heap.size 5 i0 (.int .u8 0) 1 1 Try.underlying22 hi hz0 hz1 hz2 rfl (by decide) _ _ _ rfl (hT.own.alloc _) ⟨_, 0, none⟩ 1 1 [_] rfl rfl (cell_one_new _ _ _) (one_oneCell _ _) (by have := HB2.out; unfold maxLen; (try simp only [List.length_append, List.length_cons, List.length_nil] at this ⊢); omega) (by have := HB2.out; (try simp only [List.length_append, List.length_cons, List.length_nil] at this ⊢); omega) (by have := hT.below.size; simp; omega) ?_; intro v' w1 hown' hgrow' _; have hT1 := hT.next _ hown' hgrow'; clear hown' hgrow'; obtain ⟨gx, nx, cx, hvx, HN1, hlx, hmx⟩ := hT1.form (snoc_pos _ _); rw [hvx] at hT1 ⊢; clear hvx) | (at_builtin; have _t := hT1; refine wpList_append_own _ rfl (.tmp 123) (.tmp 124) 22 rfl w.heap.size 5 i0 (.int .u8 0) 1 1 Try.underlying22 hi hz0 hz1 hz2 rfl (by decide) _ _ _ rfl (hT1.own.alloc _) ⟨_, 0, none⟩ 1 1 [_] rfl rfl (cell_one_new _ _ _) (one_oneCell _ _) (by have := HB2.out; unfold maxLen; (try simp only [List.length_append, List.length_cons, List.length_nil] at this ⊢); omega) (by have := HB2.out; (try simp only [List.length_append, List.length_cons, List.length_nil] at this ⊢); omega) (by have := hT1.below.size; simp; omega) ?_; intro v' w1 hown' hgrow' _; have hT2 := hT1.next _ hown' hgrow'; clear hown' hgrow' hT1; obtain ⟨gx, nx, cx, hvx, HN2, hlx, hmx⟩ := hT2.form (snoc_pos _ _); rw [hvx] at hT2 ⊢; clear hvx) | (go_at_call 19; refine (run_any w _ _ _ hT2 a8 l8 c8 z8 I8 (by omega) (by have := HB2.out; (try simp only [List.length_append, List.length_cons, List.length_nil] at this ⊢); omega)).mono ?_; rintro e w3 ⟨v3, rfl, hT3⟩))
            all_goals go_meet
            case rel => exact ⟨by rw [← whole_k2]; exact hT3, _, rfl, fun _ => by have := HN2.out; simp [Plain.eSign] at this ⊢; omega⟩
        case rest => as_aux_lemma =>
          obtain ⟨hT', d2, rfl, HD2⟩ := hcut
          clear hT HB0 HB1 HB2 HB3
          obtain ⟨wt, rfl⟩ : ∃ wt : World, wt = wc := ⟨_, rfl⟩
          obtain ⟨X, hX⟩ : ∃ X, X = Plain.whole neg z2 hf z4 he ue k z8 := ⟨_, rfl⟩
          rw [← hX] at hT' HW
          have HX : Hid (X = Plain.whole neg z2 hf z4 he ue k z8) := hX
          clear hX
          obtain ⟨g, n, cp, hv, HN, hncp, hcpm⟩ := hT'.form HW.out.1
          subst hv
          have IT := hT'.cuts HN.out (by rw [HX.out]; exact Plain.whole_bd neg z2 hf z4 he ue k z8)
          have J0 := I0.below hT'.below (Nat.le_refl _)
          have J9 := I9.below hT'.below (Nat.le_refl _)
          have hBt := hT'.below
          have hnb : 1 ≤ n ∧ n ≤ l2 + l4 + l8 + 7 := by have h1 := HN.out; have h2 := HW.out; omega
          have e0 := I0.len
          have HR : Hid (Plain.numN ((z0 ++ (X.take n ++ z9)).drop l0) = some n) := by
            have := Plain.read_whole z0 l0 e0 neg z2 hf z4 he ue k z8 z9 ht
            rw [← HX.out, ← HN.out] at this
            rw [List.take_of_length_le (by have := HN.out; omega)]; exact this
          have HRD : Hid (hf = true → d ≤ n ∧ 1 ≤ d ∧ Plain.numN ((z0 ++ (X.take d ++ z9)).drop l0) = none) := by
            intro hh
            subst hh
            have hd' := HD.out rfl
            have hle : d ≤ n := by rw [HN.out, HX.out, hd']; simp [Plain.whole, Plain.upTo, Plain.frac]; omega
            refine ⟨hle, by omega, ?_⟩
            rw [HX.out]
            exact Plain.read_dot z0 l0 e0 neg z2 z4 he ue k z8 z9 ht d hd'
          have HRE : Hid (he = true → d2 ≤ n ∧ 1 ≤ d2 ∧ Plain.numN ((z0 ++ (X.take d2 ++ z9)).drop l0) = none) := by
            intro hh
            subst hh
            have hd' := HD2.out rfl
            have hle : d2 ≤ n := by rw [HN.out, HX.out, hd']; simp [Plain.whole, Plain.expo]; omega
            refine ⟨hle, by omega, ?_⟩
            rw [HX.out]
            exact Plain.read_exp z0 l0 e0 neg z2 hf z4 ue k z8 z9 ht d2 hd'
          clear hT' HD HD2 HX HN HW I0 I9 I2 I4 I8 e0 ht hd
          have hcpm' : cp ≤ 9223372036854775807 := by unfold maxLen at hcpm; omega
          clear hcpm
          go_upto_if 152 with (first | (go_at_call 20; refine (concat_any _ _ _ _ _ _ _ _ _ _ _ _ _ J0 (IT n (Nat.le_refl _)) J9 (by omega)).mono ?_; rintro e wa ⟨rfl, hby, hba⟩) | (go_at_call 15; refine (zznumber_yes _ _ _ _ n (by omega) (by omega) _ _ hby HR.out).mono ?_; rintro e wb ⟨rfl, hbb⟩))
          have hA := hba.trans (hbb.mono hba.size)
          clear hba hbb hby HR
          go_cut [] (fun wx => Below wt.heap.size wt wx)
          case first => as_aux_lemma =>
            cases hf
            · go_wp2_with (fail)
              all_goals go_meet
              case rel => exact hA
            · obtain ⟨hdn, hd1, hrd⟩ := HRD.out rfl
              have HR2 : Hid (Plain.numN ((z0 ++ (X.take d ++ z9)).drop l0) = none) := hrd
              clear hrd HRD HRE
              go_wp2_with (first | (go_at_call 20; refine (concat_any _ _ _ _ _ _ _ _ _ _ _ _ _ (J0.below hA (Nat.le_refl _)) ((IT d hdn).below hA (Nat.le_refl _)) (J9.below hA (Nat.le_refl _)) (by omega)).mono ?_; rintro e wa ⟨rfl, hby, hba⟩) | (go_at_call 15; refine (zznumber_no _ _ _ _ (by omega) (by omega) _ _ hby HR2.out).mono ?_; rintro e wb ⟨rfl, hbb⟩))
              all_goals go_meet
              case rel => exact hA.trans ((hba.trans (hbb.mono hba.size)).mono hA.size)
          case rest => as_aux_lemma =>
            have hA2 := hcut
            clear hcut hA HRD
            go_upto_if 170 with fail
            go_cut [] (fun wx => Below wt.heap.size wt wx)
            case first => as_aux_lemma =>
              cases he
              · go_wp2_with (fail)
                all_goals go_meet
                case rel => exact hA2
              · obtain ⟨hdn, hd1, hrd⟩ := HRE.out rfl
                have HR2 : Hid (Plain.numN ((z0 ++ (X.take d2 ++ z9)).drop l0) = none) := hrd
                clear hrd HRE
                go_wp2_with (first | (go_at_call 20; refine (concat_any _ _ _ _ _ _ _ _ _ _ _ _ _ (J0.below hA2 (Nat.le_refl _)) ((IT d2 hdn).below hA2 (Nat.le_refl _)) (J9.below hA2 (Nat.le_refl _)) (by omega)).mono ?_; rintro e wa ⟨rfl, hby, hba⟩) | (go_at_call 15; refine (zznumber_no _ _ _ _ (by omega) (by omega) _ _ hby HR2.out).mono ?_; rintro e wb ⟨rfl, hbb⟩))
                all_goals go_meet
                case rel => exact hA2.trans ((hba.trans (hbb.mono hba.size)).mono hA2.size)
            case rest => as_aux_lemma =>
              have hA3 := hcut
              clear hcut hA2
              go_wp2
              go_ret
              exact ⟨rfl, hBt.trans (hA3.mono hBt.size)⟩
end Go.Proofs.Qxb6605243a
