/-
  THE SHELL OF A PROOF OF 'Rows.FnHex4ReadsBackFourDigitsSaid' ('example.com/utusan/utusan/zzlaws_wire_b1.FnHex4ReadsBackFourDigits'), WRITTEN BY PROGRAM (proof-skeleton.mjs, third state) off the guide's own print for that function. Not trusted: Lean checks it.
  THE HOLE IS FILLED BELOW. ALL ELSE IS THE GUIDE's OWN WAY (howto/template/XProofs.lean; Derived/Test/ChunkProofs.lean for 'Below') at this function's number and types: leave it.
-/
import Derived.Test.Qxb6605243aRows
import Derived.Test.Qxb6605243aHexB
import Derived.Test.Qxb6605243aCopy
import Derived.WalkKit
import Derived.ProofKit
import Derived.OpenShut
import Derived.ShutString
import Derived.ChangeOld
import Derived.Below
namespace Go.Proofs.Qxb6605243a.fnHex4ReadsBackFourDigits
open Go.ChangeShapes Go.WideShapes Go.ChangeAt Go.RowKit
open Go.ChangeMaps (open_string shut_string)
set_option linter.unusedVariables false

theorem own : ownKnob Try.prog.godebug = none := by kernel_rfl
theorem laidOut : laidOutB Try.prog = true := by kernel_rfl

/-- WHAT THE WALK IS TOLD OF A SLICE OF INTEGERS THAT CAME IN: it is nil; or it leads to a row of 'cap' cells, the numbers 'zs' (the first 'len' are its elements, the rest its spare room), each fitting its kind. -/
def IsRow (k : IntKind) (w : World) (a : Option Addr) (len cap : Nat) (zs : List Int) : Prop :=
  (a = none ∧ len = 0 ∧ cap = 0 ∧ zs = []) ∨
  ∃ x, a = some x ∧ len ≤ cap ∧ cap ≤ maxLen ∧ zs.length = cap ∧ (∀ i, i < zs.length → w.cell? (x.add i) = some (.int k (zs.getD i 0))) ∧ ∀ n ∈ zs, (Lit.int k n).wf = true

/-! ### STEP 1: THE WALK -/
def hexDig (d : Int) (u : Bool) : Int := if d < 10 then d + 48 else if u then d + 55 else d + 87
theorem hexDig_hexv (d : Int) (u : Bool) (h0 : 0 ≤ d) (h1 : d ≤ 15) : Plain.hexv (hexDig d u) = some d := by
  unfold hexDig
  split
  · unfold Plain.hexv; rw [if_pos (by omega)]; congr 1; omega
  · split
    · unfold Plain.hexv; rw [if_neg (by omega), if_neg (by omega), if_pos (by omega)]; congr 1; omega
    · unfold Plain.hexv; rw [if_neg (by omega), if_pos (by omega)]; congr 1; omega
theorem hexDig_bd (d : Int) (u : Bool) (h0 : 0 ≤ d) (h1 : d ≤ 15) : 0 ≤ hexDig d u ∧ hexDig d u ≤ 255 := by
  unfold hexDig; split
  · omega
  · split <;> omega
theorem hexAcc_snoc {ds : List Int} {r0 r c d : Int} (h : Plain.hexAcc r0 ds = some r) (hc : Plain.hexv c = some d) : Plain.hexAcc r0 (ds ++ [c]) = some (r * 16 + d) := by
  induction ds generalizing r0 with
  | nil => simp [Plain.hexAcc] at h; subst h; simp [Plain.hexAcc, hc]
  | cons x l ih =>
    simp only [Plain.hexAcc, List.cons_append] at h ⊢
    cases hx : Plain.hexv x with
    | none => rw [hx] at h; cases h
    | some y => rw [hx] at h; exact ih h

theorem digitOf_any (d : Int) (u : Bool) (h0 : 0 ≤ d) (h1 : d ≤ 15) (w : World) :
    Calls Try.prog 11 #[.int .u16 d, .bool u] w fun e w' => e = .returned (.int .u8 (hexDig d u)) ∧ w' = w := by
  by_cases h : d < 10
  · have e : hexDig d u = d + 48 := by unfold hexDig; rw [if_pos h]
    rw [e]; clear e
    go_enter Try.func11, Try.ntmps11
    go_wp2
    go_ret
    exact ⟨rfl, rfl⟩
  · cases u
    · have e : hexDig d false = d - 10 + 97 := by unfold hexDig; rw [if_neg h]; simp; omega
      rw [e]; clear e
      go_enter Try.func11, Try.ntmps11
      go_wp2
      go_ret
      exact ⟨rfl, rfl⟩
    · have e : hexDig d true = d - 10 + 65 := by unfold hexDig; rw [if_neg h]; simp; omega
      rw [e]; clear e
      go_enter Try.func11, Try.ntmps11
      go_wp2
      go_ret
      exact ⟨rfl, rfl⟩

theorem digitOf_masked (x : Int) (u : Bool) (h0 : 0 ≤ x) (h1 : x ≤ 65535) (w : World) :
    Calls Try.prog 11 #[.int .u16 (bits .and .u16 x 15), .bool u] w fun e w' => e = .returned (.int .u8 (hexDig (x % 16) u)) ∧ w' = w := by
  have e : bits .and .u16 x 15 = x % 16 := by
    rw [u16_and x 15 h0 (by omega) (by omega) (by omega)]
    have : (15 : Int).toNat = 15 := rfl
    rw [this, nat_mask4]; omega
  rw [e]
  exact digitOf_any _ _ (by omega) (by omega) w
theorem one_oneCell (k : IntKind) (n : Int) : ∀ u ∈ [Value.int k n], u.oneCell' = true := by
  intro u hu; simp at hu; subst hu; rfl
theorem snoc_bd {ds : List Int} {c : Int} (h : ∀ i, 0 ≤ ds.getD i 0 ∧ ds.getD i 0 ≤ 255) (hc : 0 ≤ c ∧ c ≤ 255) : Hid (∀ i, 0 ≤ (ds ++ [c]).getD i 0 ∧ (ds ++ [c]).getD i 0 ≤ 255) := by
  intro i
  have hi := h i
  simp only [List.getD, List.getElem?_append] at hi ⊢
  split
  · exact hi
  · rcases Nat.lt_or_ge (i - ds.length) 1 with g | g
    · have : i - ds.length = 0 := by omega
      rw [this]; simpa using hc
    · rw [List.getElem?_eq_none (by simpa using g)]; simp
theorem snoc_acc {ds : List Int} {v d : Int} {u : Bool} {n n' : Nat} (h : Plain.hexAcc 0 ds = some (v / 16 ^ n)) (h0 : 0 ≤ d) (h1 : d ≤ 15) (e : v / 16 ^ n * 16 + d = v / 16 ^ n') : Hid (Plain.hexAcc 0 (ds ++ [hexDig d u]) = some (v / 16 ^ n')) := by
  unfold Hid
  rw [hexAcc_snoc h (hexDig_hexv d u h0 h1), e]
theorem snoc_acc0 {ds : List Int} {v : Int} {u : Bool} (h0 : 0 ≤ v) (h : Plain.hexAcc 0 ds = some (v / 16 ^ (4 - 0))) : Hid (Plain.hexAcc 0 (ds ++ [hexDig (v / 4096 % 16) u]) = some (v / 16 ^ (4 - 1))) :=
  snoc_acc h (by omega) (by omega) (by simp; omega)
theorem snoc_acc1 {ds : List Int} {v : Int} {u : Bool} (h0 : 0 ≤ v) (h : Plain.hexAcc 0 ds = some (v / 16 ^ (4 - 1))) : Hid (Plain.hexAcc 0 (ds ++ [hexDig (v / 256 % 16) u]) = some (v / 16 ^ (4 - 2))) :=
  snoc_acc h (by omega) (by omega) (by simp; omega)
theorem snoc_acc2 {ds : List Int} {v : Int} {u : Bool} (h0 : 0 ≤ v) (h : Plain.hexAcc 0 ds = some (v / 16 ^ (4 - 2))) : Hid (Plain.hexAcc 0 (ds ++ [hexDig (v / 16 % 16) u]) = some (v / 16 ^ (4 - 3))) :=
  snoc_acc h (by omega) (by omega) (by simp; omega)
theorem snoc_acc3 {ds : List Int} {v : Int} {u : Bool} (h0 : 0 ≤ v) (h : Plain.hexAcc 0 ds = some (v / 16 ^ (4 - 3))) : Hid (Plain.hexAcc 0 (ds ++ [hexDig (v % 16) u]) = some (v / 16 ^ (4 - 4))) :=
  snoc_acc h (by omega) (by omega) (by simp; omega)

theorem tail_src {w wr : World} {ao : Option Addr} {zs : List Int} (hb : Below w.heap.size w wr) (hc : ∀ x, ao = some x → ∀ i, i < zs.length → w.cell? (x.add i) = some (.int .u8 (zs.getD i 0))) :
    ∀ ad, ao = some ad → ∀ j u, (zs.map (Value.int .u8))[j]? = some u → wr.cell? (ad.add j) = some u := by
  intro ad had j u hu
  have hj : j < zs.length := by simpa using (List.getElem?_eq_some_iff.1 hu).1
  have e : u = .int .u8 (zs.getD j 0) := by
    simp [hj] at hu
    simp [List.getD, hj, ← hu]
  rw [e]
  have h := hc ad had j hj
  exact (hb.cell (World.block_lt_of_cell? _ _ h)).trans h
theorem first_four {w : World} {base g m cap : Nat} {ds : List Int} {xs : List Value} (h : w.ownsRow base 5 1 (.slice (some ⟨g, 0, none⟩) (4 + m) cap) (4 + m) (ds.map (Value.int .u8) ++ xs)) (hl : ds.length = 4) :
    Hid (∀ i, i < 4 → w.cell? ⟨g, i, none⟩ = some (.int .u8 (ds.getD i 0))) := by
  intro i hi
  rw [h.cellAt i (by omega), List.getElem?_append_left (by simp; omega)]
  simp [List.getD, show i < ds.length by omega]

theorem walk_big (a0 a1 : Int) (a2 : Option Addr) (len2 cap2 : Nat) (w : World) (hbig : 1048576 < len2) (hm : len2 ≤ maxLen) :
    Calls Try.prog 4 #[.int .u16 a0, .int .u8 a1, .slice a2 len2 cap2] w fun e w' => e = .returned (.bool true) ∧ Below w.heap.size w w' := by
  unfold maxLen at hm
  go_enter Try.func4, Try.ntmps4
  go_wp2
  go_ret
  exact ⟨rfl, Below.refl _ _⟩

set_option maxHeartbeats 1000000 in
theorem walk_small (v u : Int) (ao : Option Addr) (m cap : Nat) (zs : List Int) (w : World) (hz : Hid (zs.length = m)) (hnil : Hid (ao = none → m = 0 ∧ cap = 0)) (hcell : Hid (∀ x, ao = some x → ∀ i, i < zs.length → w.cell? (x.add i) = some (.int .u8 (zs.getD i 0))))
    (h0 : 0 ≤ v) (h1 : v ≤ 65535) (hu0 : 0 ≤ u) (hu1 : u ≤ 255) (hbig : m ≤ 1048576) :
    Calls Try.prog 4 #[.int .u16 v, .int .u8 u, .slice ao m cap] w fun e w' => e = .returned (.bool true) ∧ Below w.heap.size w w' := by
  obtain ⟨i0, hi, hz0, hz1, hz2⟩ := info_parts Try.info5
  go_enter Try.func4, Try.ntmps4
  go_wp2_with (first | (at_make; refine wpList_make_own _ rfl (.const (.int .i64 0)) (.tmp 26) 22 rfl w.heap.size 5 i0 (.int .u8 0) 1 Try.underlying22 hi hz0 hz1 .i64 .i64 _ (4 + m) rfl rfl (by omega) (by rw [hz2]; omega) (by unfold maxLen; omega) (Nat.le_refl _) ?_; intro w1 hown hgrow) | (go_at_call 10; go_in))
  have hbel := below_made hgrow
  clear hgrow
  go_loopw [7, 8] (fun sv i wr => ∃ k : Nat, ∃ ds : List Int, k ≤ 4 ∧ i = .int .i64 k ∧ sv = .slice (some ⟨w.heap.size, 0, none⟩) k (4 + m) ∧ Hid (ds.length = k) ∧ wr.ownsRow w.heap.size 5 1 (.slice (some ⟨w.heap.size, 0, none⟩) k (4 + m)) k (ds.map (Value.int .u8)) ∧ Below w.heap.size w wr ∧ Hid (∀ i, 0 ≤ ds.getD i 0 ∧ ds.getD i 0 ≤ 255) ∧ Hid (Plain.hexAcc 0 ds = some (v / 16 ^ (4 - k)))) (fun _ i _ => 4 - (intOf i).toNat)
  case atStart => exact ⟨0, [], by omega, rfl, rfl, rfl, hown, hbel, (fun i => by simp), by show some (0 : Int) = some (v / 65536); congr 1; omega⟩
  case round =>
    obtain ⟨k, ds, hk, rfl, rfl, HL, hown, hbel, HB, H⟩ := hrel
    by_cases hlt : k < 4
    · rcases (show k = 0 ∨ k = 1 ∨ k = 2 ∨ k = 3 from by omega) with rfl | rfl | rfl | rfl
      · have hx : 0 ≤ v / 4096 ∧ v / 4096 ≤ 65535 := by omega
        go_wp2_with (first | (go_at_call 11; refine (digitOf_masked _ _ hx.1 hx.2 _).mono ?_; rintro e w' ⟨rfl, rfl⟩) | (at_builtin; refine wpList_append_fits _ rfl (.tmp 36) (.tmp 48) 22 rfl w.heap.size 5 i0 1 Try.underlying22 hi hz1 w.heap.size 0 (4 + m) _ rfl (hown.alloc _) ⟨_, 0, none⟩ 1 1 [_] rfl rfl (cell_one_new _ _ _) (one_oneCell _ _) (by omega) ?_; intro w1 hown' hgrow'))
        go_roundw
        case rel => exact ⟨1, ds ++ [_], by omega, by rfl, rfl, by have := HL.out; simp [Hid, this], by simpa using hown', (hbel.alloc hbel.size _).grown hgrow' (by have := hbel.size; simp; omega) (by simp), snoc_bd HB.out (hexDig_bd _ _ (by omega) (by omega)), snoc_acc0 h0 H.out⟩
        case measure => simp [intOf]
      · have hx : 0 ≤ v / 256 ∧ v / 256 ≤ 65535 := by omega
        go_wp2_with (first | (go_at_call 11; refine (digitOf_masked _ _ hx.1 hx.2 _).mono ?_; rintro e w' ⟨rfl, rfl⟩) | (at_builtin; refine wpList_append_fits _ rfl (.tmp 36) (.tmp 48) 22 rfl w.heap.size 5 i0 1 Try.underlying22 hi hz1 w.heap.size 1 (4 + m) _ rfl (hown.alloc _) ⟨_, 0, none⟩ 1 1 [_] rfl rfl (cell_one_new _ _ _) (one_oneCell _ _) (by omega) ?_; intro w1 hown' hgrow'))
        go_roundw
        case rel => exact ⟨2, ds ++ [_], by omega, by rfl, rfl, by have := HL.out; simp [Hid, this], by simpa using hown', (hbel.alloc hbel.size _).grown hgrow' (by have := hbel.size; simp; omega) (by simp), snoc_bd HB.out (hexDig_bd _ _ (by omega) (by omega)), snoc_acc1 h0 H.out⟩
        case measure => simp [intOf]
      · have hx : 0 ≤ v / 16 ∧ v / 16 ≤ 65535 := by omega
        go_wp2_with (first | (go_at_call 11; refine (digitOf_masked _ _ hx.1 hx.2 _).mono ?_; rintro e w' ⟨rfl, rfl⟩) | (at_builtin; refine wpList_append_fits _ rfl (.tmp 36) (.tmp 48) 22 rfl w.heap.size 5 i0 1 Try.underlying22 hi hz1 w.heap.size 2 (4 + m) _ rfl (hown.alloc _) ⟨_, 0, none⟩ 1 1 [_] rfl rfl (cell_one_new _ _ _) (one_oneCell _ _) (by omega) ?_; intro w1 hown' hgrow'))
        go_roundw
        case rel => exact ⟨3, ds ++ [_], by omega, by rfl, rfl, by have := HL.out; simp [Hid, this], by simpa using hown', (hbel.alloc hbel.size _).grown hgrow' (by have := hbel.size; simp; omega) (by simp), snoc_bd HB.out (hexDig_bd _ _ (by omega) (by omega)), snoc_acc2 h0 H.out⟩
        case measure => simp [intOf]
      · have hx : 0 ≤ v ∧ v ≤ 65535 := by omega
        go_wp2_with (first | (go_at_call 11; refine (digitOf_masked _ _ hx.1 hx.2 _).mono ?_; rintro e w' ⟨rfl, rfl⟩) | (at_builtin; refine wpList_append_fits _ rfl (.tmp 36) (.tmp 48) 22 rfl w.heap.size 5 i0 1 Try.underlying22 hi hz1 w.heap.size 3 (4 + m) _ rfl (hown.alloc _) ⟨_, 0, none⟩ 1 1 [_] rfl rfl (cell_one_new _ _ _) (one_oneCell _ _) (by omega) ?_; intro w1 hown' hgrow'))
        go_roundw
        case rel => exact ⟨4, ds ++ [_], by omega, by rfl, rfl, by have := HL.out; simp [Hid, this], by simpa using hown', (hbel.alloc hbel.size _).grown hgrow' (by have := hbel.size; simp; omega) (by simp), snoc_bd HB.out (hexDig_bd _ _ (by omega) (by omega)), snoc_acc3 h0 H.out⟩
        case measure => simp [intOf]
    · obtain rfl : k = 4 := by omega
      have H' : Hid (Plain.hexAcc 0 ds = some v) := by
        have := H.out
        simp at this
        exact this
      clear H
      have tok1 : True := trivial
      have tok2 : True := trivial
      have hm2 : 4 + m ≤ maxLen := by unfold maxLen; omega
      go_wp2_with (first | (at_builtin; refine wpList_append_fits_any _ rfl (.tmp 50) (.tmp 51) 22 rfl w.heap.size 5 i0 1 Try.underlying22 hi hz1 w.heap.size 4 (4 + m) _ rfl hown ao m cap (zs.map (Value.int .u8)) rfl (by have := hz.out; simp; omega) hnil.out (tail_src hbel hcell.out) (ints_oneCell _ _) (Nat.le_refl _) ?_; intro w2 hown2 hgrow2; have HY := first_four hown2 HL.out; have hbel2 := hbel.grown hgrow2 hbel.size (by simp); clear hown hbel hgrow2) | (go_at_call 9; have _t := tok1; refine (zzhex4_some _ _ _ (by omega) (Nat.le_refl _) hm2 ds HL.out _ HB.out HY.out v H'.out).mono ?_; rintro e w' ⟨rfl, rfl⟩; clear tok1) | (go_at_call 9; have _t := tok2; refine (zzhex4_some _ _ _ (by omega) (by omega) hm2 ds HL.out _ HB.out HY.out v H'.out).mono ?_; rintro e w' ⟨rfl, rfl⟩; clear tok2) | (go_at_call 9; refine (zzhex4_short _ _ _ (by omega) _).mono ?_; rintro e w' ⟨rfl, rfl⟩))
      go_ret
      exact ⟨rfl, hbel2⟩

theorem walk (a0 : Int) (a1 : Int) (a2 : Option Addr) (len2 cap2 : Nat) (z2 : List Int) (w : World) (w0 : (Lit.int .u16 a0).wf = true) (w1 : (Lit.int .u8 a1).wf = true) (w2 : IsRow .u8 w a2 len2 cap2 z2) :
    Calls Try.prog 4 #[.int .u16 a0, .int .u8 a1, .slice a2 len2 cap2] w fun e w' => e = .returned (.bool true) ∧ Below w.heap.size w w' := by
  have hv : 0 ≤ a0 ∧ a0 ≤ 65535 := by simp [Lit.wf, IntKind.min, IntKind.max, IntKind.signed, IntKind.bits] at w0; omega
  have hu := byte_bd w1
  rcases w2 with ⟨rfl, rfl, rfl, rfl⟩ | ⟨x, rfl, hl, hm, hz, hcell, hwz⟩
  · exact walk_small a0 a1 none 0 0 [] w rfl (fun _ => ⟨rfl, rfl⟩) (fun x h => by cases h) hv.1 hv.2 hu.1 hu.2 (by omega)
  · by_cases hbig : 1048576 < len2
    · exact walk_big _ _ _ _ _ w hbig (by omega)
    · have hlen : (z2.take len2).length = len2 := by simp; omega
      exact walk_small a0 a1 (some x) len2 cap2 (z2.take len2) w hlen (fun h => by cases h) (fun y h => by cases h; exact take_cells len2 hcell) hv.1 hv.2 hu.1 hu.2 (by omega)

/-! ### THE ROW's STEP: WRITTEN OUT: LEAVE IT -/
set_option maxRecDepth 100000 in
theorem lifted (os : Os) (started : os.Started) (H : Type) (enc : TypeId × Value → H) :
    ReturnsInHanded {} Try.checked os 4 .any (Rows.fnHex4ReadsBackFourDigitsSpec.pre6 enc Try.prog Try.f4 Rows.fnHex4ReadsBackFourDigitsRow.domain false) (Rows.fnHex4ReadsBackFourDigitsSpec.post enc Try.prog Try.f4 false true false false) := by
  refine returnsInHanded_of_change (C := Try.checked) own started (by kernel_rfl) Try.func4
    (ChangeSpec.witness6 (enc := enc) (C := Try.checked) false ⟨#[], #[.int .u16 0, .int .u8 0, .slice none 0 0], []⟩ 8 (by kernel_rfl) (by kernel_rfl) (by kernel_rfl) (by kernel_rfl)) ?_
  intro W base args ds gs before hval0 hW hcnd _
  have hval : ∀ (j : Nat) t v, Try.f4.params[j]? = some t → args[j]? = some v → Value.okWide Try.prog W .any base t v := hval0
  have hW' := hW
  obtain ⟨p, q, hA0, hV, rfl, hfz, hnd⟩ := hW
  have hA : DataW.TrodAll enc Try.prog W 0 (fun _ => true) true Try.f4.params.toList args.toList ds p := hA0
  rw [Try.params4] at hA hval
  obtain ⟨v0, vs0, d0, ds0, p0, q0, hargs, rfl, rfl, h0, r0⟩ := trodAll_cons hA
  obtain ⟨v1, vs1, d1, ds1, p1, q1, rfl, rfl, rfl, h1, r1⟩ := trodAll_cons r0
  obtain ⟨v2, vs2, d2, ds2, p2, q2, rfl, rfl, rfl, h2, r2⟩ := trodAll_cons r1
  obtain ⟨rfl, rfl, rfl⟩ := trodAll_nil r2
  obtain rfl : args = #[v0, v1, v2] := by cases args; simp_all
  obtain ⟨rfl, rfl⟩ := trodVars_none hV
  obtain ⟨a0, rfl, rfl, rfl, w0⟩ := open_int Try.underlying27 (hval 0 27 v0 rfl rfl) h0
  obtain ⟨a1, rfl, rfl, rfl, w1⟩ := open_int Try.underlying5 (hval 1 5 v1 rfl rfl) h1
  obtain ⟨a2, len2, cap2, rfl⟩ := okWide_slice Try.underlying22 (hval 2 22 v2 rfl rfl)
  have k2 := h2
  have lt2 : ∀ x ∈ p2, x.block < W.heap.size := by obtain ⟨m, hm⟩ := k2; exact DataW.trod_lt m _ _ _ hm
  obtain ⟨z2, w2⟩ : ∃ zs, IsRow .u8 W a2 len2 cap2 zs := by
    obtain ⟨fuel, hf⟩ := h2
    rcases open_ints Try.underlying22 Try.underlying5 (by kernel_rfl) hf with ⟨hcs, _⟩ | ⟨x, l, c, zs, hcs, _, hl, hm, hz, _, hcell, hwz⟩
    · simp [Value.cells] at hcs
      obtain ⟨rfl, rfl, rfl⟩ := hcs
      exact ⟨[], .inl ⟨rfl, rfl, rfl, rfl⟩⟩
    · simp [Value.cells] at hcs
      obtain ⟨rfl, rfl, rfl⟩ := hcs
      exact ⟨zs, .inr ⟨_, rfl, hl, hm, by simpa using hz, hcell, hwz⟩⟩
  clear hA0 hval0
  refine (walk a0 a1 a2 len2 cap2 z2 W w0 w1 w2).mono fun e W' ⟨he, bel⟩ => ?_
  subst he
  exact ⟨_, rfl, _, _, _, [], _, [], hW', trodAll_mk1 (shut_bool Try.underlying4 _), (trodAll_cons_mk (shut_int Try.underlying27 w0) (trodAll_cons_mk (shut_int Try.underlying5 w1) (trodAll_cons_mk (Below.trod laidOut (by kernel_rfl) (of_decide_eq_true (by kernel_rfl)) k2 bel lt2) trodAll_mk0))), rfl, bel.frame _, fun h => by cases h⟩

theorem over : Rows.fnHex4ReadsBackFourDigitsRow.holds Try.pinned (OpenSpec.ofChange Rows.fnHex4ReadsBackFourDigitsSpec) :=
  OpenClaim.holds_of_wide 4 Try.f4 rfl rfl rfl rfl rfl rfl rfl ⟨rfl, rfl, rfl, rfl, rfl⟩ rfl rfl rfl rfl rfl (by kernel_rfl) Try.func4 (by kernel_rfl)
    (of_decide_eq_true (by kernel_rfl)) (by unfold Func.isWrapper; first | (rw [if_pos (by decide +kernel)]; kernel_rfl) | (rw [if_neg (by decide +kernel)]; exact ⟨rfl, rfl⟩))
    (fun os started H enc _ => lifted os started H enc)

/-- ████ THE STATEMENT ████ -/
theorem proved : Rows.FnHex4ReadsBackFourDigitsSaid := over
#print axioms proved
end Go.Proofs.Qxb6605243a.fnHex4ReadsBackFourDigits
