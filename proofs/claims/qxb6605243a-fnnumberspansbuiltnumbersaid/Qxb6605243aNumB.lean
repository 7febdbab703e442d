import Derived.Test.Qxb6605243aNumA
import Derived.Test.Qxb6605243aNumP
import Derived.Deep.QuietTactic
import Derived.BigQuiet
import Derived.Deep.DeepCutAuto
import Derived.Deep.CutBlock
namespace Go.Proofs.Qxb6605243a
open Go.ChangeShapes Go.WideShapes Go.ChangeAt Go.RowKit
set_option linter.unusedVariables false

/-- What 'number' leaves. -/
def NumPost (w : World) (bp pos : Nat) (o : Option Nat) (e : Ending) (w' : World) : Prop :=
  (∃ k q, o = some k ∧ e = .returned (.bool true) ∧ w' = (w.drewN q).setCell ⟨bp, 1, none⟩ (.int .i64 ((pos + k : Nat) : Int))) ∨
  (∃ q, o = none ∧ e = .returned (.bool false) ∧ w' = w.drewN q)

theorem NumPost.no {w : World} {bp pos q : Nat} {o : Option Nat} (h : o = none) : NumPost w bp pos o (.returned (.bool false)) (w.drewN q) := .inr ⟨q, h, rfl, rfl⟩
theorem NumPost.yes {w : World} {bp pos q i : Nat} {o : Option Nat} (h : ∃ k, o = some k ∧ i = pos + k) : NumPost w bp pos o (.returned (.bool true)) ((w.drewN q).setCell ⟨bp, 1, none⟩ (.int .i64 (i : Int))) := by
  obtain ⟨k, h, rfl⟩ := h
  exact .inl ⟨k, q, h, rfl, rfl⟩

theorem Bytes.drewN {w : World} {g n : Nat} {zs : List Int} (h : Bytes w g n zs) (q : Nat) : Bytes (w.drewN q) g n zs :=
  ⟨h.len, h.bd, fun i hi => by rw [World.cell?_drewN]; exact h.cell i hi⟩

set_option maxRecDepth 20000 in
set_option maxHeartbeats 1000000 in
theorem number_any (bp bd g n cap pos : Nat) (hn : n ≤ 2097152) (hpos : pos < n) (zs : List Int) (w : World) (HZ : Bytes w g n zs)
    (hp0 : w.cell? ⟨bp, 0, none⟩ = some (.pointer (some ⟨bd, 0, none⟩))) (hp1 : w.cell? ⟨bp, 1, none⟩ = some (.int .i64 (pos : Int))) (hpf : w.frozen? ⟨bp, 1, none⟩ = false)
    (hd0 : w.cell? ⟨bd, 0, none⟩ = some (.slice (some ⟨g, 0, none⟩) n cap)) :
    Calls Try.prog 23 #[.pointer (some ⟨bp, 0, none⟩)] w fun e w' => NumPost w bp pos (Plain.numN (zs.drop pos)) e w' := by
  have HL : Hid (zs.length = n) := HZ.len
  obtain ⟨c0, hcd⟩ : ∃ c, c = zs.getD pos 0 := ⟨_, rfl⟩
  have hcell := HZ.cell pos hpos
  rw [← hcd] at hcell
  have HD : Hid (zs.drop pos = c0 :: zs.drop (pos + 1)) := by have := HZ.drop hpos; rw [← hcd] at this; exact this
  clear hcd
  go_enter Try.func23, Try.ntmps23
  go_wp2
  go_quiet (fail)
  go_upto_if 22 with (fail)
  go_cut [4] (fun s4 wx => wx = w.drewN nq ∧ ∃ i1 : Nat, s4 = .int .i64 i1 ∧ pos ≤ i1 ∧ i1 ≤ n ∧ Hid (i1 = pos + Plain.minN (zs.drop pos)))
  case first =>
    by_cases hm : c0 = 45
    · have hb : (c0 == 45) = true := by simpa using hm
      have H1 : Hid (pos + 1 = pos + Plain.minN (zs.drop pos)) := by unfold Hid; rw [HD.out]; simp [Plain.minN, hm]
      clear hm
      go_wp2_with (fail)
      all_goals go_meet
      case rel => exact ⟨rfl, pos + 1, by go_num, by omega, by omega, H1⟩
    · have hb : (c0 == 45) = false := by simpa using hm
      have H1 : Hid (pos = pos + Plain.minN (zs.drop pos)) := by unfold Hid; rw [HD.out]; simp [Plain.minN, hm]
      clear hm
      go_wp2_with (fail)
      go_meet
      case rel => exact ⟨rfl, pos, by go_num, by omega, by omega, H1⟩
  case rest =>
    obtain ⟨rfl, i1, rfl, hp1', hi1, H1⟩ := hcut
    clear hcell HD
    go_upto_block 0 with fail
    go_cut [4] (fun s4 wx => wx = w.drewN nq ∧ ∃ i2 : Nat, s4 = .int .i64 i2 ∧ pos ≤ i2 ∧ i2 ≤ n ∧ Hid (Plain.numN (zs.drop pos) = (Plain.tailN (zs.drop i2)).map fun c => (i2 - pos) + c))
    case first =>
      by_cases hlt : i1 < n
      · obtain ⟨c, hcd⟩ : ∃ c, c = zs.getD i1 0 := ⟨_, rfl⟩
        have hcell := HZ.cell i1 hlt
        rw [← hcd] at hcell
        have HC : Hid (zs.getD i1 0 = c) := hcd.symm
        clear hcd
        rcases (show c = 48 ∨ (49 ≤ c ∧ c ≤ 57) ∨ c < 48 ∨ 57 < c from by omega) with h | h | h | h
        · have hb : (c == 48) = true := by simpa using h
          have H2 : Hid (Plain.numN (zs.drop pos) = (Plain.tailN (zs.drop (i1 + 1))).map fun c => ((i1 + 1) - pos) + c) := Plain.num_after_int H1.out (Plain.int_zero HL.out hlt (by rw [HC.out]; exact h))
          clear h H1
          go_wp2_with (fail)
          all_goals go_meet
          case rel => exact ⟨rfl, i1 + 1, by go_num, by omega, by omega, H2⟩
        · have hb : (c == 48) = false := by simp; omega
          have H2 : Hid (Plain.numN (zs.drop pos) = (Plain.tailN (zs.drop (i1 + Plain.digN (zs.drop i1)))).map fun c => ((i1 + Plain.digN (zs.drop i1)) - pos) + c) := Plain.num_after_int H1.out (Plain.int_run HL.out hlt (by rw [HC.out]; exact h))
          have hr := Plain.dig_room HL.out hi1
          obtain ⟨j, hj⟩ : ∃ j, j = i1 + Plain.digN (zs.drop i1) := ⟨_, rfl⟩
          have K : Calls Try.prog 24 #[.slice (some ⟨g, 0, none⟩) n cap, .int .i64 (i1 : Int)] (w.drewN nq) fun e w' => e = .returned (.int .i64 (j : Int)) ∧ w' = w.drewN nq := by
            rw [hj]; exact digits_any g n cap (by omega) zs i1 hi1 _ (HZ.drewN nq)
          rw [← hj] at H2 hr
          have hji : i1 ≤ j := by omega
          clear hj H1
          go_wp2_with (go_at_call 24; refine K.mono ?_; rintro e w' ⟨rfl, rfl⟩)
          all_goals go_meet
          case rel => exact ⟨rfl, j, rfl, by omega, hr, H2⟩
        all_goals
          have hb : (c == 48) = false := by simp; omega
          have H2 : Hid (Plain.numN (zs.drop pos) = none) := Plain.num_none_int H1.out (Plain.int_bad HL.out hlt (by rw [HC.out]; omega))
          clear H1
          go_wp2_with (fail)
          go_ret
          exact NumPost.no H2.out
      · have H2 : Hid (Plain.numN (zs.drop pos) = none) := Plain.num_none_int H1.out (Plain.int_end HL.out (by omega))
        clear H1
        go_wp2_with (fail)
        go_ret
        exact NumPost.no H2.out
    case rest =>
      obtain ⟨rfl, i2, rfl, hp2, hi2, H2⟩ := hcut
      clear H1 hp1' hi1
      go_upto_region 9 with fail
      go_cut [71] (fun s71 wx => wx = w.drewN nq ∧ s71 = .bool (Plain.isAt zs n i2 46))
      case first =>
        by_cases hlt : i2 < n
        · obtain ⟨c, hcd⟩ : ∃ c, c = zs.getD i2 0 := ⟨_, rfl⟩
          have hcell := HZ.cell i2 hlt
          rw [← hcd] at hcell
          have HB : Hid (Plain.isAt zs n i2 46 = (c == 46)) := by rw [hcd]; unfold Hid Plain.isAt; simp [hlt]
          clear hcd
          go_wp2_with (fail)
          all_goals go_meet
          case rel => exact ⟨rfl, by rw [HB.out]⟩
        · have HB : Hid (Plain.isAt zs n i2 46 = false) := Plain.isAt_false.2 (by omega)
          go_wp2_with (fail)
          all_goals go_meet
          case rel => exact ⟨rfl, by rw [HB.out]⟩
      case rest =>
        obtain ⟨rfl, rfl⟩ := hcut
        go_upto_if 71 with fail
        go_cut [4, 5] (fun s4 s5 wx => wx = w.drewN nq ∧ ∃ i3 : Nat, s4 = .int .i64 i3 ∧ pos ≤ i3 ∧ i3 ≤ n ∧ Hid (Plain.numN (zs.drop pos) = (Plain.expN (zs.drop i3)).map fun c => (i3 - pos) + c))
        case first =>
          cases hB : Plain.isAt zs n i2 46 with
          | false =>
            have H3 : Hid (Plain.numN (zs.drop pos) = (Plain.expN (zs.drop i2)).map fun c => (i2 - pos) + c) := Plain.num_after_frac hp2 H2.out (Plain.frac_no HL.out hB)
            clear hB
            go_wp2_with (fail)
            all_goals go_meet
            case rel => exact ⟨rfl, i2, rfl, hp2, hi2, H3⟩
          | true =>
            have hlt : i2 < n := (Plain.isAt_true.1 hB).1
            have HB : Hid (Plain.isAt zs n i2 46 = true) := hB
            clear hB
            have hr := Plain.dig_room (i := i2 + 1) HL.out (by omega)
            obtain ⟨d, hd⟩ : ∃ d, d = Plain.digN (zs.drop (i2 + 1)) := ⟨_, rfl⟩
            have K : Calls Try.prog 24 #[.slice (some ⟨g, 0, none⟩) n cap, .int .i64 ((i2 : Int) + 1)] (w.drewN nq) fun e w' => e = .returned (.int .i64 ((i2 : Int) + 1 + (d : Int))) ∧ w' = w.drewN nq := by
              have := digits_any g n cap (by omega) zs (i2 + 1) (by omega) _ (HZ.drewN nq)
              rw [← hd] at this
              simpa using this
            rw [← hd] at hr
            have HDD : Hid (d = Plain.digN (zs.drop (i2 + 1))) := hd
            clear hd
            by_cases h0 : d = 0
            · have H3 : Hid (Plain.numN (zs.drop pos) = none) := Plain.num_none_frac H2.out (Plain.frac_bad HL.out HB.out (by rw [← HDD.out]; exact h0))
              subst h0
              go_wp2_with (go_at_call 24; refine K.mono ?_; rintro e w' ⟨rfl, rfl⟩)
              go_ret
              exact NumPost.no H3.out
            · have H3 : Hid (Plain.numN (zs.drop pos) = (Plain.expN (zs.drop (i2 + 1 + d))).map fun c => ((i2 + 1 + d) - pos) + c) := Plain.num_after_frac hp2 H2.out (by rw [HDD.out]; exact Plain.frac_yes HL.out HB.out (by rw [← HDD.out]; exact h0))
              have hne : ((i2 : Int) + 1 + (d : Int) == (i2 : Int) + 1) = false := by simp; omega
              have hd1 : 1 ≤ d := by omega
              clear h0
              go_wp2_with (go_at_call 24; refine K.mono ?_; rintro e w' ⟨rfl, rfl⟩)
              all_goals go_meet
              case rel => exact ⟨rfl, i2 + 1 + d, by go_num, by omega, by omega, H3⟩
        case rest =>
          obtain ⟨rfl, i3, rfl, hp3, hi3, H3⟩ := hcut
          clear H2 hp2 hi2
          go_upto_region 14 with fail
          go_cut [97] (fun s97 wx => wx = w.drewN nq ∧ s97 = .bool (Plain.eAt zs n i3))
          case first =>
            by_cases hlt : i3 < n
            · obtain ⟨c, hcd⟩ : ∃ c, c = zs.getD i3 0 := ⟨_, rfl⟩
              have hcell := HZ.cell i3 hlt
              rw [← hcd] at hcell
              by_cases h1 : c = 101
              · have HB : Hid (Plain.eAt zs n i3 = true) := Plain.eAt_true.2 ⟨hlt, by rw [← hcd]; exact .inl h1⟩
                have hb : (c == 101) = true := by simpa using h1
                clear hcd h1
                go_wp2_with (fail)
                all_goals go_meet
                case rel => exact ⟨rfl, by rw [HB.out]⟩
              · have hb : (c == 101) = false := by simpa using h1
                have HB : Hid (Plain.eAt zs n i3 = (c == 69)) := Plain.eAt_of hlt hcd hb
                clear hcd h1
                go_wp2_with (fail)
                all_goals go_meet
                case rel => exact ⟨rfl, by rw [HB.out]⟩
            · have HB : Hid (Plain.eAt zs n i3 = false) := Plain.eAt_false.2 (by omega)
              go_wp2_with (fail)
              all_goals go_meet
              case rel => exact ⟨rfl, by rw [HB.out]⟩
          case rest =>
            obtain ⟨rfl, rfl⟩ := hcut
            go_upto_if 97 with fail
            go_cut [4, 6] (fun s4 s6 wx => wx = w.drewN nq ∧ ∃ i4 : Nat, s4 = .int .i64 i4 ∧ i4 ≤ n ∧ Hid (∃ k, Plain.numN (zs.drop pos) = some k ∧ i4 = pos + k))
            case first =>
              cases hB : Plain.eAt zs n i3 with
              | false =>
                have H4 : Hid (∃ k, Plain.numN (zs.drop pos) = some k ∧ i3 = pos + k) := Plain.num_after_exp hp3 H3.out (Plain.exp_no HL.out hB)
                clear hB H3
                go_wp2_with (fail)
                all_goals go_meet
                case rel => exact ⟨rfl, i3, rfl, hi3, H4⟩
              | true =>
                have hlt : i3 < n := (Plain.eAt_true.1 hB).1
                have HB : Hid (Plain.eAt zs n i3 = true) := hB
                clear hB
                by_cases hl4 : i3 + 1 < n
                · obtain ⟨c, hcd⟩ : ∃ c, c = zs.getD (i3 + 1) 0 := ⟨_, rfl⟩
                  have hcell := HZ.cell (i3 + 1) hl4
                  rw [← hcd] at hcell
                  have HC : Hid (zs.getD (i3 + 1) 0 = c) := hcd.symm
                  clear hcd
                  by_cases h43 : c = 43
                  · have HS : Hid (Plain.sgnN (zs.drop (i3 + 1)) = 1) := Plain.sgn_at HL.out hl4 (.inl (by rw [HC.out]; exact h43))
                    have hb : (c == 43) = true := by simpa using h43
                    clear h43
                    have hr := Plain.dig_room (i := i3 + 1 + 1) HL.out (by omega)
                    obtain ⟨d, hd⟩ : ∃ d, d = Plain.digN (zs.drop (i3 + 1 + 1)) := ⟨_, rfl⟩
                    have K : Calls Try.prog 24 #[.slice (some ⟨g, 0, none⟩) n cap, .int .i64 ((i3 : Int) + 1 + 1)] (w.drewN nq) fun e w' => e = .returned (.int .i64 ((i3 : Int) + 1 + 1 + (d : Int))) ∧ w' = w.drewN nq := by
                      have := digits_any g n cap (by omega) zs (i3 + 1 + 1) (by omega) _ (HZ.drewN nq)
                      rw [← hd] at this
                      have e1 : (((i3 + 1 + 1 : Nat)) : Int) = (i3 : Int) + 1 + 1 := by omega
                      have e2 : (((i3 + 1 + 1 + d : Nat)) : Int) = (i3 : Int) + 1 + 1 + (d : Int) := by omega
                      rw [e1, e2] at this
                      exact this
                    rw [← hd] at hr
                    have HDD : Hid (d = Plain.digN (zs.drop (i3 + 1 + 1))) := hd
                    clear hd
                    by_cases h0 : d = 0
                    · have H4 : Hid (Plain.numN (zs.drop pos) = none) := Plain.num_none_exp H3.out (Plain.exp_bad HL.out HB.out (j := i3 + 1 + 1) (by rw [HS.out]) (by rw [← HDD.out]; exact h0))
                      subst h0
                      clear H3
                      go_wp2_with (go_at_call 24; refine K.mono ?_; rintro e w' ⟨rfl, rfl⟩)
                      go_ret
                      exact NumPost.no H4.out
                    · have H4 : Hid (∃ k, Plain.numN (zs.drop pos) = some k ∧ i3 + 1 + 1 + d = pos + k) := Plain.num_after_exp hp3 H3.out (by rw [HDD.out]; exact Plain.exp_yes HL.out HB.out (j := i3 + 1 + 1) (by rw [HS.out]) (by rw [← HDD.out]; exact h0))
                      have hne : ((i3 : Int) + 1 + 1 + (d : Int) == (i3 : Int) + 1 + 1) = false := by simp; omega
                      have hd1 : 1 ≤ d := by omega
                      clear h0 H3
                      go_wp2_with (go_at_call 24; refine K.mono ?_; rintro e w' ⟨rfl, rfl⟩)
                      all_goals go_meet
                      case rel => exact ⟨rfl, i3 + 1 + 1 + d, by go_num, by omega, H4⟩
                  · have hb43 : (c == 43) = false := by simpa using h43
                    by_cases h45 : c = 45
                    · have HS : Hid (Plain.sgnN (zs.drop (i3 + 1)) = 1) := Plain.sgn_at HL.out hl4 (.inr (by rw [HC.out]; exact h45))
                      have hb : (c == 45) = true := by simpa using h45
                      clear h43 h45
                      have hr := Plain.dig_room (i := i3 + 1 + 1) HL.out (by omega)
                      obtain ⟨d, hd⟩ : ∃ d, d = Plain.digN (zs.drop (i3 + 1 + 1)) := ⟨_, rfl⟩
                      have K : Calls Try.prog 24 #[.slice (some ⟨g, 0, none⟩) n cap, .int .i64 ((i3 : Int) + 1 + 1)] (w.drewN nq) fun e w' => e = .returned (.int .i64 ((i3 : Int) + 1 + 1 + (d : Int))) ∧ w' = w.drewN nq := by
                        have := digits_any g n cap (by omega) zs (i3 + 1 + 1) (by omega) _ (HZ.drewN nq)
                        rw [← hd] at this
                        have e1 : (((i3 + 1 + 1 : Nat)) : Int) = (i3 : Int) + 1 + 1 := by omega
                        have e2 : (((i3 + 1 + 1 + d : Nat)) : Int) = (i3 : Int) + 1 + 1 + (d : Int) := by omega
                        rw [e1, e2] at this
                        exact this
                      rw [← hd] at hr
                      have HDD : Hid (d = Plain.digN (zs.drop (i3 + 1 + 1))) := hd
                      clear hd
                      by_cases h0 : d = 0
                      · have H4 : Hid (Plain.numN (zs.drop pos) = none) := Plain.num_none_exp H3.out (Plain.exp_bad HL.out HB.out (j := i3 + 1 + 1) (by rw [HS.out]) (by rw [← HDD.out]; exact h0))
                        subst h0
                        clear H3
                        go_wp2_with (go_at_call 24; refine K.mono ?_; rintro e w' ⟨rfl, rfl⟩)
                        go_ret
                        exact NumPost.no H4.out
                      · have H4 : Hid (∃ k, Plain.numN (zs.drop pos) = some k ∧ i3 + 1 + 1 + d = pos + k) := Plain.num_after_exp hp3 H3.out (by rw [HDD.out]; exact Plain.exp_yes HL.out HB.out (j := i3 + 1 + 1) (by rw [HS.out]) (by rw [← HDD.out]; exact h0))
                        have hne : ((i3 : Int) + 1 + 1 + (d : Int) == (i3 : Int) + 1 + 1) = false := by simp; omega
                        have hd1 : 1 ≤ d := by omega
                        clear h0 H3
                        go_wp2_with (go_at_call 24; refine K.mono ?_; rintro e w' ⟨rfl, rfl⟩)
                        all_goals go_meet
                        case rel => exact ⟨rfl, i3 + 1 + 1 + d, by go_num, by omega, H4⟩
                    · have HS : Hid (Plain.sgnN (zs.drop (i3 + 1)) = 0) := Plain.sgn_not HL.out (by rw [HC.out]; omega)
                      have hb : (c == 45) = false := by simpa using h45
                      clear h43 h45
                      have hr := Plain.dig_room (i := i3 + 1) HL.out (by omega)
                      obtain ⟨d, hd⟩ : ∃ d, d = Plain.digN (zs.drop (i3 + 1)) := ⟨_, rfl⟩
                      have K : Calls Try.prog 24 #[.slice (some ⟨g, 0, none⟩) n cap, .int .i64 ((i3 : Int) + 1)] (w.drewN nq) fun e w' => e = .returned (.int .i64 ((i3 : Int) + 1 + (d : Int))) ∧ w' = w.drewN nq := by
                        have := digits_any g n cap (by omega) zs (i3 + 1) (by omega) _ (HZ.drewN nq)
                        rw [← hd] at this
                        have e1 : (((i3 + 1 : Nat)) : Int) = (i3 : Int) + 1 := by omega
                        have e2 : (((i3 + 1 + d : Nat)) : Int) = (i3 : Int) + 1 + (d : Int) := by omega
                        rw [e1, e2] at this
                        exact this
                      rw [← hd] at hr
                      have HDD : Hid (d = Plain.digN (zs.drop (i3 + 1))) := hd
                      clear hd
                      by_cases h0 : d = 0
                      · have H4 : Hid (Plain.numN (zs.drop pos) = none) := Plain.num_none_exp H3.out (Plain.exp_bad HL.out HB.out (j := i3 + 1) (by rw [HS.out]) (by rw [← HDD.out]; exact h0))
                        subst h0
                        clear H3
                        go_wp2_with (go_at_call 24; refine K.mono ?_; rintro e w' ⟨rfl, rfl⟩)
                        go_ret
                        exact NumPost.no H4.out
                      · have H4 : Hid (∃ k, Plain.numN (zs.drop pos) = some k ∧ i3 + 1 + d = pos + k) := Plain.num_after_exp hp3 H3.out (by rw [HDD.out]; exact Plain.exp_yes HL.out HB.out (j := i3 + 1) (by rw [HS.out]) (by rw [← HDD.out]; exact h0))
                        have hne : ((i3 : Int) + 1 + (d : Int) == (i3 : Int) + 1) = false := by simp; omega
                        have hd1 : 1 ≤ d := by omega
                        clear h0 H3
                        go_wp2_with (go_at_call 24; refine K.mono ?_; rintro e w' ⟨rfl, rfl⟩)
                        all_goals go_meet
                        case rel => exact ⟨rfl, i3 + 1 + d, by go_num, by omega, H4⟩
                · have HS : Hid (Plain.sgnN (zs.drop (i3 + 1)) = 0) := Plain.sgn_not HL.out (by omega)
                  have hr := Plain.dig_room (i := i3 + 1) HL.out (by omega)
                  obtain ⟨d, hd⟩ : ∃ d, d = Plain.digN (zs.drop (i3 + 1)) := ⟨_, rfl⟩
                  have K : Calls Try.prog 24 #[.slice (some ⟨g, 0, none⟩) n cap, .int .i64 ((i3 : Int) + 1)] (w.drewN nq) fun e w' => e = .returned (.int .i64 ((i3 : Int) + 1 + (d : Int))) ∧ w' = w.drewN nq := by
                    have := digits_any g n cap (by omega) zs (i3 + 1) (by omega) _ (HZ.drewN nq)
                    rw [← hd] at this
                    have e1 : (((i3 + 1 : Nat)) : Int) = (i3 : Int) + 1 := by omega
                    have e2 : (((i3 + 1 + d : Nat)) : Int) = (i3 : Int) + 1 + (d : Int) := by omega
                    rw [e1, e2] at this
                    exact this
                  rw [← hd] at hr
                  have HDD : Hid (d = Plain.digN (zs.drop (i3 + 1))) := hd
                  clear hd
                  by_cases h0 : d = 0
                  · have H4 : Hid (Plain.numN (zs.drop pos) = none) := Plain.num_none_exp H3.out (Plain.exp_bad HL.out HB.out (j := i3 + 1) (by rw [HS.out]) (by rw [← HDD.out]; exact h0))
                    subst h0
                    clear H3
                    go_wp2_with (go_at_call 24; refine K.mono ?_; rintro e w' ⟨rfl, rfl⟩)
                    go_ret
                    exact NumPost.no H4.out
                  · omega
            case rest =>
              obtain ⟨rfl, i4, rfl, hi4, H4⟩ := hcut
              clear H3 hp3 hi3
              go_wp2
              go_ret
              exact NumPost.yes H4.out
end Go.Proofs.Qxb6605243a
