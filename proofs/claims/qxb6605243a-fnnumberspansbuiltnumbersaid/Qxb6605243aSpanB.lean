import Derived.Test.Qxb6605243aSpanA
namespace Go.Proofs.Qxb6605243a
open Go.ChangeShapes Go.WideShapes Go.ChangeAt Go.RowKit
set_option linter.unusedVariables false

/-- appendDigitRun where no digit is asked for: one '0'. -/
theorem run_empty (w0 w : World) (v : Value) (ts : List Int) (hT : Text w0 w v ts) (a : Option Addr) (cap : Nat) (hl : ts.length ≤ 4194304) :
    Calls Try.prog 19 #[v, .slice a 0 cap] w fun e w' => ∃ v', e = .returned v' ∧ Text w0 w' v' (ts ++ Plain.digs []) := by
  obtain ⟨i0, hi, hz0, hz1, hz2⟩ := info_parts Try.info5
  have hb := hT.below.size
  have hm : ts.length + 1 ≤ maxLen := by unfold maxLen; omega
  go_enter Try.func19, Try.ntmps19
  go_wp2_with (at_builtin; refine wpList_append_own _ rfl (.tmp 9) (.tmp 10) 22 rfl w0.heap.size 5 i0 (.int .u8 0) 1 1 Try.underlying22 hi hz0 hz1 hz2 rfl (by decide) _ _ _ rfl (hT.own.alloc _) ⟨_, 0, none⟩ 1 1 [_] rfl rfl (cell_one_new _ _ _) (one_oneCell _ _) hm (by omega) (by simp; omega) ?_; intro v' w1 hown' hgrow' _)
  go_ret
  exact ⟨v', rfl, hT.next _ hown' hgrow'⟩

/-- k digits have been written. -/
def digsTo (ds : List Int) (k : Nat) : List Int := (ds.take k).map fun d => 48 + d % 10
theorem digsTo_succ {ds : List Int} {k : Nat} (hk : k < ds.length) : digsTo ds (k + 1) = digsTo ds k ++ [48 + ds.getD k 0 % 10] := by
  unfold digsTo
  have e : ds.getD k 0 = ds[k] := by simp [List.getD, hk]
  rw [List.take_succ_eq_append_getElem hk, List.map_append, e]; rfl
theorem digsTo_all {ds : List Int} (h : 0 < ds.length) : digsTo ds ds.length = Plain.digs ds := by
  unfold digsTo Plain.digs; rw [if_neg (by omega), List.take_length]
theorem digsTo_len {ds : List Int} {k : Nat} (hk : k ≤ ds.length) : (digsTo ds k).length = k := by
  unfold digsTo; simp; omega

set_option maxHeartbeats 400000 in
theorem run_some (w0 w : World) (v : Value) (ts : List Int) (hT : Text w0 w v ts) (b off n cap : Nat) (ds : List Int) (hd : Hid (ds.length = n)) (hc : Hid (∀ i, i < n → w0.cell? ⟨b, off + i, none⟩ = some (.int .u8 (ds.getD i 0))))
    (hbd : Hid (∀ i, 0 ≤ ds.getD i 0 ∧ ds.getD i 0 ≤ 255)) (hn : 0 < n) (hn2 : n ≤ 1048576) (hl : ts.length ≤ 4194304) :
    Calls Try.prog 19 #[v, .slice (some ⟨b, off, none⟩) n cap] w fun e w' => ∃ v', e = .returned v' ∧ Text w0 w' v' (ts ++ Plain.digs ds) := by
  obtain ⟨i0, hi, hz0, hz1, hz2⟩ := info_parts Try.info5
  have hne : ((n : Int) == 0) = false := by simp; omega
  have hbw : b < w0.heap.size := World.block_lt_of_cell? _ _ (hc.out 0 hn)
  go_enter Try.func19, Try.ntmps19
  go_wp2
  go_loopw [0, 5] (fun sv i wr => ∃ k : Nat, k ≤ n ∧ i = .int .i64 k ∧ Text w0 wr sv (ts ++ digsTo ds k)) (fun _ i _ => n - (intOf i).toNat)
  case atStart => exact ⟨0, by omega, rfl, by simpa [digsTo] using hT⟩
  case round =>
    obtain ⟨k, hk, rfl, hR⟩ := hrel
    by_cases hlt : k < n
    · have hcell : wr.cell? ⟨b, off + k, none⟩ = some (.int .u8 (ds.getD k 0)) := by rw [hR.below.cell (by exact hbw)]; exact hc.out k hlt
      have hcb := hbd.out k
      have hlen : (ts ++ digsTo ds k).length = ts.length + k := by rw [List.length_append, digsTo_len (by have := hd.out; omega)]
      have hb := hR.below.size
      have HS := digsTo_succ (ds := ds) (k := k) (by have := hd.out; omega)
      obtain ⟨c, hcd⟩ : ∃ c, c = ds.getD k 0 := ⟨_, rfl⟩
      rw [← hcd] at hcell hcb HS
      have HS' : Hid (digsTo ds (k + 1) = digsTo ds k ++ [48 + c % 10]) := HS
      clear HS hcd
      obtain ⟨us, hus⟩ : ∃ us, us = ts ++ digsTo ds k := ⟨_, rfl⟩
      rw [← hus] at hR hlen
      have HU : Hid (us = ts ++ digsTo ds k) := hus
      clear hus
      have hm : us.length + 1 ≤ maxLen := by unfold maxLen; omega
      have HLen : Hid (us.length = ts.length + k) := hlen
      clear hlen
      go_wp2_with (at_builtin; refine wpList_append_own _ rfl (.tmp 18) (.tmp 25) 22 rfl w0.heap.size 5 i0 (.int .u8 0) 1 1 Try.underlying22 hi hz0 hz1 hz2 rfl (by decide) _ _ _ rfl (hR.own.alloc _) ⟨_, 0, none⟩ 1 1 [_] rfl rfl (cell_one_new _ _ _) (one_oneCell _ _) hm (by have := HLen.out; omega) (by simp; omega) ?_; intro v' w1 hown' hgrow' _)
      go_roundw
      case rel => exact ⟨k + 1, by omega, by go_num, by rw [HS'.out, ← List.append_assoc, ← HU.out]; exact hR.next _ hown' hgrow'⟩
      case measure => simp [intOf]; omega
    · obtain rfl : k = n := by omega
      have hR' : Text w0 wr u0 (ts ++ Plain.digs ds) := by
        have := hR
        rw [← hd.out, digsTo_all (by have := hd.out; omega)] at this
        exact this
      go_wp2
      go_ret
      exact ⟨_, rfl, hR'⟩
/-- appendDigitRun, whatever the run. -/
theorem run_any (w0 w : World) (v : Value) (ts : List Int) (hT : Text w0 w v ts) (a : Option Addr) (n cap : Nat) (ds : List Int) (hin : In w0 a n cap ds) (hn2 : n ≤ 1048576) (hl : ts.length ≤ 4194304) :
    Calls Try.prog 19 #[v, .slice a n cap] w fun e w' => ∃ v', e = .returned v' ∧ Text w0 w' v' (ts ++ Plain.digs ds) := by
  by_cases hn : n = 0
  · subst hn
    have : ds = [] := List.eq_nil_of_length_eq_zero hin.len
    subst this
    exact run_empty w0 w v ts hT a cap hl
  · obtain ⟨b, off, rfl, hc⟩ := hin.plain (by omega)
    exact run_some w0 w v ts hT b off n cap ds hin.len hc hin.bd (by omega) hn2 hl

/-- The integer part: k digits have been written. -/
def intsTo (ds : List Int) (k : Nat) : List Int := (49 + ds.getD 0 0 % 9) :: ((ds.take k).drop 1).map fun d => 48 + d % 10
theorem intsTo_one (ds : List Int) : intsTo ds 1 = [49 + ds.getD 0 0 % 9] := by
  unfold intsTo
  rw [List.drop_of_length_le (by simp; omega)]; rfl
theorem intsTo_succ {ds : List Int} {k : Nat} (h1 : 1 ≤ k) (hk : k < ds.length) : intsTo ds (k + 1) = intsTo ds k ++ [48 + ds.getD k 0 % 10] := by
  unfold intsTo
  have e : ds.getD k 0 = ds[k] := by simp [List.getD, hk]
  rw [List.take_succ_eq_append_getElem hk, List.drop_append_of_le_length (by simp; omega), List.map_append, e]; rfl
theorem intsTo_all {ds : List Int} (h : 2 ≤ ds.length) : intsTo ds ds.length = Plain.ints ds := by
  match ds, h with
  | d :: e :: l, _ => unfold intsTo Plain.ints; rw [List.take_length]; rfl
theorem intsTo_len {ds : List Int} {k : Nat} (h1 : 1 ≤ k) (hk : k ≤ ds.length) : (intsTo ds k).length = k := by
  unfold intsTo; simp; omega

set_option maxHeartbeats 1000000 in
theorem int_long (w0 w : World) (v : Value) (ts : List Int) (hT : Text w0 w v ts) (b off n cap : Nat) (ds : List Int) (hd : Hid (ds.length = n)) (hc : Hid (∀ i, i < n → w0.cell? ⟨b, off + i, none⟩ = some (.int .u8 (ds.getD i 0))))
    (hbd : Hid (∀ i, 0 ≤ ds.getD i 0 ∧ ds.getD i 0 ≤ 255)) (hn : 2 ≤ n) (hn2 : n ≤ 1048576) (hl : ts.length ≤ 4194304) :
    Calls Try.prog 18 #[v, .slice (some ⟨b, off, none⟩) n cap] w fun e w' => ∃ v', e = .returned v' ∧ Text w0 w' v' (ts ++ Plain.ints ds) := by
  obtain ⟨i0, hi, hz0, hz1, hz2⟩ := info_parts Try.info5
  have hbw : b < w0.heap.size := World.block_lt_of_cell? _ _ (hc.out 0 (by omega))
  have hcell0 : w.cell? ⟨b, off, none⟩ = some (.int .u8 (ds.getD 0 0)) := by rw [hT.below.cell (by exact hbw)]; exact hc.out 0 (by omega)
  have hcb0 := hbd.out 0
  have hm0 : ts.length + 1 ≤ maxLen := by unfold maxLen; omega
  have hb0 := hT.below.size
  have H1 : Hid (intsTo ds 1 = [49 + ds.getD 0 0 % 9]) := intsTo_one ds
  obtain ⟨c0, hcd0⟩ : ∃ c, c = ds.getD 0 0 := ⟨_, rfl⟩
  rw [← hcd0] at hcell0 hcb0 H1
  clear hcd0
  go_enter Try.func18, Try.ntmps18
  go_wp2_with (at_builtin; refine wpList_append_own _ rfl (.tmp 12) (.tmp 18) 22 rfl w0.heap.size 5 i0 (.int .u8 0) 1 1 Try.underlying22 hi hz0 hz1 hz2 rfl (by decide) _ _ _ rfl (hT.own.alloc _) ⟨_, 0, none⟩ 1 1 [_] rfl rfl (cell_one_new _ _ _) (one_oneCell _ _) hm0 (by omega) (by simp; omega) ?_; intro v' w1 hown' hgrow' _; have hT1 := hT.next _ hown' hgrow'; clear hT hown' hgrow' hcell0)
  go_loopw [0, 5] (fun sv i wr => ∃ k : Nat, 1 ≤ k ∧ k ≤ n ∧ i = .int .i64 k ∧ Text w0 wr sv (ts ++ intsTo ds k)) (fun _ i _ => n - (intOf i).toNat)
  case atStart => exact ⟨1, by omega, by omega, rfl, by rw [H1.out]; exact hT1⟩
  case round =>
    obtain ⟨k, hk1, hk, rfl, hR⟩ := hrel
    by_cases hlt : k < n
    · have hcell : wr.cell? ⟨b, off + k, none⟩ = some (.int .u8 (ds.getD k 0)) := by rw [hR.below.cell (by exact hbw)]; exact hc.out k hlt
      have hcb := hbd.out k
      have hlen : (ts ++ intsTo ds k).length = ts.length + k := by rw [List.length_append, intsTo_len hk1 (by have := hd.out; omega)]
      have hb := hR.below.size
      have HS := intsTo_succ (ds := ds) (k := k) hk1 (by have := hd.out; omega)
      obtain ⟨c, hcd⟩ : ∃ c, c = ds.getD k 0 := ⟨_, rfl⟩
      rw [← hcd] at hcell hcb HS
      have HS' : Hid (intsTo ds (k + 1) = intsTo ds k ++ [48 + c % 10]) := HS
      clear HS hcd
      obtain ⟨us, hus⟩ : ∃ us, us = ts ++ intsTo ds k := ⟨_, rfl⟩
      rw [← hus] at hR hlen
      have HU : Hid (us = ts ++ intsTo ds k) := hus
      clear hus
      have hm : us.length + 1 ≤ maxLen := by unfold maxLen; omega
      have HLen : Hid (us.length = ts.length + k) := hlen
      clear hlen hT1
      go_wp2_with (at_builtin; refine wpList_append_own _ rfl (.tmp 26) (.tmp 33) 22 rfl w0.heap.size 5 i0 (.int .u8 0) 1 1 Try.underlying22 hi hz0 hz1 hz2 rfl (by decide) _ _ _ rfl (hR.own.alloc _) ⟨_, 0, none⟩ 1 1 [_] rfl rfl (cell_one_new _ _ _) (one_oneCell _ _) hm (by have := HLen.out; omega) (by simp; omega) ?_; intro v' w1 hown' hgrow' _)
      go_roundw
      case rel => exact ⟨k + 1, by omega, by omega, by go_num, by rw [HS'.out, ← List.append_assoc, ← HU.out]; exact hR.next _ hown' hgrow'⟩
      case measure => simp [intOf]; omega
    · obtain rfl : k = n := by omega
      have hR' : Text w0 wr u0 (ts ++ Plain.ints ds) := by
        have := hR
        rw [← hd.out, intsTo_all (by have := hd.out; omega)] at this
        exact this
      go_wp2
      go_ret
      exact ⟨_, rfl, hR'⟩
/-- appendIntegerPart, whatever the digits. -/
theorem int_any (w0 w : World) (v : Value) (ts : List Int) (hT : Text w0 w v ts) (a : Option Addr) (n cap : Nat) (ds : List Int) (hin : In w0 a n cap ds) (hn2 : n ≤ 1048576) (hl : ts.length ≤ 4194304) :
    Calls Try.prog 18 #[v, .slice a n cap] w fun e w' => ∃ v', e = .returned v' ∧ Text w0 w' v' (ts ++ Plain.ints ds) := by
  by_cases hn : n ≤ 1
  · have K := run_any w0 w v ts hT a n cap ds hin hn2 hl
    have e : Plain.ints ds = Plain.digs ds := by
      have hl := hin.len
      match ds, hl with
      | [], _ => rfl
      | [_], _ => rfl
      | _ :: _ :: _, hl => simp at hl; omega
    rw [e]
    go_enter Try.func18, Try.ntmps18
    go_wp2_with (go_at_call 19; refine K.mono ?_; rintro e w' ⟨v', rfl, hT'⟩)
    go_ret
    exact ⟨_, rfl, hT'⟩
  · obtain ⟨b, off, rfl, hc⟩ := hin.plain (by omega)
    exact int_long w0 w v ts hT b off n cap ds hin.len hc hin.bd (by omega) hn2 hl
end Go.Proofs.Qxb6605243a
