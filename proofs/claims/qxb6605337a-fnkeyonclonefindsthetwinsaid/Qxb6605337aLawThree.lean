import Derived.Test.Qxb6605337aLawOne
import Derived.Test.Qxb6605337aTwinC
import Derived.Lib.Builder
namespace Go.Proofs.Qxb6605337a
open Go.ChangeShapes Go.WideShapes Go.ChangeAt Go.RowKit
set_option linter.unusedVariables false

theorem row_bound {w : World} {b t m j : Nat} {f : Nat → Value} {v : Value} (h : w.rowIs b t m f) (hc : w.cell? ⟨b, j, none⟩ = some v) : j < m := by
  obtain ⟨c, hh, hs, _⟩ := h
  rw [cell_of_row w b j c t (0, 0) hh] at hc
  have := (Array.getElem?_eq_some_iff.1 hc).1
  omega

/-- The row behind the slice x, in memory from block lo on, wide enough for l bytes. -/
def RowOk (w : World) (lo : Nat) (x : Option Addr) (l : Nat) : Prop := 0 < l → ∃ Y o m f, x = some ⟨Y, o, none⟩ ∧ lo ≤ Y ∧ w.rowIs Y 5 m f ∧ o + l ≤ m

set_option maxHeartbeats 2000000 in
theorem three_walk (t s id : Int) (ao : Option Addr) (n cap b off : Nat) (I : Nat → Int) (A : Nat → Option Addr) (L C : Nat → Nat) (Z : Nat → List Int) (w : World) (HI : IsKeys w ao n cap b off I A L C Z) :
    Calls Try.prog 6 #[.int .u8 t, .slice ao n cap, .int .u8 s, .int .u8 id] w fun e w' => e = .returned (.bool true) ∧ Below w.heap.size w w' := by
  obtain ⟨r, hr⟩ := firstFrom_exists I id n
  have HR : Hid (FirstFrom I id 0 n r) := hr
  clear hr
  go_enter Try.func6, Try.ntmps6
  go_wp2_with fail
  refine (zz17_any w t s id ao n cap b off HI.heads (len_out HI.len) I A L C Z HI.keys (lens_out HI.lens)).mono ?_
  rintro e w' ⟨r1, rfl, hw⟩
  replace hw := hw.symm
  subst hw
  cases r1
  · go_wp2
    go_ret
    exact ⟨rfl, Below.refl _ _⟩
  go_wp2_with fail
  refine (fit_any w ao n cap b off HI.heads HI.len I A L C Z HI.keys HI.lens).mono ?_
  rintro e w' ⟨r2, rfl, hfit, hw⟩
  replace hw := hw.symm
  subst hw
  cases r2
  · clear hfit
    go_wp2
    go_ret
    exact ⟨rfl, Below.refl _ _⟩
  obtain ⟨hn, hl⟩ := hfit rfl
  have HL : Hid (∀ i, i < n → L i ≤ 1048576) := hl
  clear hfit hl
  go_wp2_with fail
  refine (clone_any w ao n cap b off HI.isNil HI.heads hn I A L C Z HI.keys HL.out).mono ?_
  rintro e w1 ⟨a1, c1, g1, A1, C1, rfl, H1, hb1, hz1⟩
  have HZ1 : Hid (a1 = none → c1 = 0) := hz1
  clear hz1
  go_wp2_with fail
  refine (build_any w1 t s a1 n c1 g1 0 (fun h => ⟨by have := H1.heads; by_cases h0 : n = 0; exact h0; exact absurd (h.symm.trans (this (by omega))) (by simp), HZ1.out h⟩) H1.heads hn I A1 L C1 Z H1.keys HL.out).mono ?_
  rintro e w2 ⟨a2, c2, g2, A2, C2, rfl, H2, hb2, hz2⟩
  have HZ2 : Hid (a2 = none → c2 = 0) := hz2
  clear hz2 HZ1
  go_wp2_with fail
  obtain ⟨W, hW⟩ : ∃ W, W = w2.alloc (Obj.cells #[Value.int IntKind.u8 t, Value.slice a2 n c2, Value.int IntKind.u8 s] 29) := ⟨_, rfl⟩
  obtain ⟨q0, q1, q2, hbW⟩ := auth_facts hW
  have hWs : W.heap.size = w2.heap.size + 1 := by rw [hW]; simp
  rw [← hW]
  clear hW
  have H2W := H2.below hbW (Nat.le_refl _)
  have H1W := (H1.below hb2 (Nat.le_refl _)).below hbW (Nat.le_refl _)
  have hbA : Below w.heap.size w W := hb1.trans ((hb2.trans (hbW.mono hb2.size)).mono hb1.size)
  clear H1 H2 hb1 hb2 hbW
  refine (zzclone_any W t s a2 n c2 g2 (fun h => ⟨by have := H2W.heads; by_cases h0 : n = 0; exact h0; exact absurd (h.symm.trans (this (by omega))) (by simp), HZ2.out h⟩) H2W.heads I A2 L C2 Z H2W.keys hn HL.out).mono ?_
  rintro e w3 ⟨a3, c3, g3, A3, C3, rfl, hb3, hC⟩
  clear HZ2
  go_wp2_with fail
  obtain ⟨V, hV⟩ : ∃ V, V = w3.alloc (Obj.cells #[Value.int IntKind.u8 t, Value.slice a3 n c3, Value.int IntKind.u8 s] 29) := ⟨_, rfl⟩
  obtain ⟨_, u1, _, hbV0⟩ := auth_facts hV
  rw [← hV]
  clear hV
  have hbV : Below W.heap.size W V := hb3.trans (hbV0.mono hb3.size)
  have K1V := H1W.keys.below hbV (Nat.le_refl _)
  have K2V := H2W.keys.below hbV (Nat.le_refl _)
  have K3V := hC.keys.below hbV0 (Nat.le_refl _)
  have q1V : V.cell? ⟨w2.heap.size, 1, none⟩ = some (.slice a2 n c2) := by rw [hbV.cell (by simp; omega)]; exact q1
  have KA := zzkey_any V w2.heap.size g2 n c2 a2 H2W.heads hn I A2 L C2 Z K2V id q1V r HR.out
  have KC := zzkey_any V w3.heap.size g3 n c3 a3 hC.heads hn I A3 L C3 Z K3V id u1 r HR.out
  have KB := back_any V a1 n c1 g1 0 H1W.heads hn I A1 L C1 Z K1V id r HR
  cases r with
  | none =>
    simp only [keyV, wantV] at KA KC KB
    refine KA.mono ?_
    rintro e w' ⟨rfl, hw⟩
    replace hw := hw.symm
    subst hw
    go_wp2_with fail
    refine KC.mono ?_
    rintro e w' ⟨rfl, hw⟩
    replace hw := hw.symm
    subst hw
    go_wp2_with (go_at_call 12; refine KB.mono ?_; rintro e w' ⟨rfl, hw⟩; replace hw := hw.symm; subst hw)
    go_ret
    exact ⟨rfl, hbA.trans (hbV.mono hbA.size)⟩
  | some i =>
    have hin : i < n := HR.out.2.1
    have hII : I i = id := HR.out.2.2.1
    simp only [keyV, wantV] at KA KC KB
    obtain rfl := H1W.heads (by omega)
    obtain rfl := H2W.heads (by omega)
    obtain rfl := hC.heads (by omega)
    obtain ⟨hg3, hO3⟩ := hC.ok (by omega)
    have hOV := hO3.below hbV0 (Nat.le_refl _)
    obtain ⟨hg1a, hg1b, _⟩ := H1W.row (by omega)
    obtain ⟨hg2a, hg2b, ty2, f2, hr2⟩ := H2W.row (by omega)
    obtain ⟨m3, f3, hr3⟩ := hOV.row
    have hr2V := rowIs_below hr2 hbV hg2b
    obtain ⟨i0, hi, _, hz1, _⟩ := info_parts Try.info38
    have e31 : ∀ (w : World) (a : Addr), (binOp .neq 31 (.pointer (some a)) (.pointer (some a))).run Try.prog w = .ok (.bool false) w := fun w a => Lib.run_neq_ptr_same w a Try.underlying31 hi
    have o31 : (binOp .eql 31 (.pointer (some ⟨g3, i * 2, none⟩)) (.pointer (some ⟨g2, i * 2, none⟩))).run Try.prog V = .ok (.bool false) V := by
      obtain ⟨ca, ha, _⟩ := hr3
      obtain ⟨cb, hb, _⟩ := hr2V
      exact run_eql_ptr_other V Try.underlying31 hi (by rw [hz1]; decide) (by intro h; simp at h <;> omega) ha hb
    have s1 := K1V.sec i hin
    have n1 := K1V.inn i hin
    have i3 := K3V.id i hin
    have s3 := K3V.sec i hin
    have n3 := K3V.inn i hin
    rw [Nat.zero_add] at s1 i3 s3
    rw [hII] at i3
    have hl := HL.out i hin
    have hnk : (A3 i).isNone = (A1 i).isNone := (hOV.isNil i hin).trans (H2W.isNil i hin)
    refine KA.mono ?_
    rintro e w' ⟨rfl, hw⟩
    replace hw := hw.symm
    subst hw
    go_wp2_with fail
    refine KC.mono ?_
    rintro e w' ⟨rfl, hw⟩
    replace hw := hw.symm
    subst hw
    have hown := hOV.own i hin
    have hi2 := H2W.keys.id i hin
    have hs2 := H2W.keys.sec i hin
    have hn2 := H2W.keys.inn i hin
    have hs1 := H1W.keys.sec i hin
    have hn1 := H1W.keys.inn i hin
    rw [Nat.zero_add] at hi2 hs2 hs1
    rw [hII] at hi2
    clear KA KC hII
    obtain ⟨l, hld⟩ : ∃ c, c = L i := ⟨_, rfl⟩
    obtain ⟨x1, hx1⟩ : ∃ c, c = A1 i := ⟨_, rfl⟩
    obtain ⟨x2, hx2⟩ : ∃ c, c = A2 i := ⟨_, rfl⟩
    obtain ⟨x3, hx3⟩ : ∃ c, c = A3 i := ⟨_, rfl⟩
    obtain ⟨y1, hy1⟩ : ∃ c, c = C1 i := ⟨_, rfl⟩
    obtain ⟨y2, hy2⟩ : ∃ c, c = C2 i := ⟨_, rfl⟩
    obtain ⟨y3, hy3⟩ : ∃ c, c = C3 i := ⟨_, rfl⟩
    rw [← hx1, ← hld, ← hy1] at s1 n1 hs1 hn1
    rw [← hx3, ← hld, ← hy3] at s3 n3
    rw [← hx2, ← hld, ← hy2] at hs2 hn2
    rw [← hx1, ← hx3] at hnk
    rw [← hx3, ← hld] at hown
    rw [← hld] at hl
    clear hld hx1 hx2 hx3 hy1 hy2 hy3 K1V K2V K3V hO3 hr2 hr2V hr3
    obtain ⟨nk, hk1⟩ : ∃ nk, x1.isNone = nk := ⟨_, rfl⟩
    have hk3 : x3.isNone = nk := by rw [hnk]; exact hk1
    clear hnk
    have hli : (i : Int) < (n : Int) := by omega
    have e36 : ∀ (w : World) (a : Option Addr) (n c n' c' : Nat), (binOp .eql 36 (.slice a n c) (.slice none n' c')).run Try.prog w = .ok (.bool a.isNone) w := fun w a n c n' c' => Lib.run_eql_slice_nil w 36 5 a n c n' c' Try.underlying36
    have HG3 : Hid (W.heap.size ≤ g3) := hg3
    have HOWN : Hid (∀ y, x3 = some y → g3 < y.block ∧ y.block < V.heap.size ∧ ∃ h m, V.rowIs y.block 5 m h ∧ l ≤ m) := hown
    clear hown hOV hC H1W H2W
    go_wp2_with (go_at_call 12; refine KB.mono ?_; rintro e w' ⟨rfl, hw⟩; replace hw := hw.symm; subst hw)
    go_quiet (fail)
    go_wp2
    have KS := fun (wx : World) (hx : ∀ a, wx.cell? a = V.cell? a) => same_any wx x3 x1 l y3 y1 (Z i) (n3.congr hx) (n1.congr hx) hl
    go_quiet ((go_at_call 18; refine quiet_at (KS _ ?_); intro a; simp))
    clear KS
    have HRow : RowOk V W.heap.size x3 l := by
      intro hl0
      obtain ⟨Y, o, rfl, hc⟩ := n3.plain hl0
      obtain ⟨h1, h2, f, m, h3, h4⟩ := HOWN.out _ rfl
      have hb := row_bound h3 (hc (l - 1) (by omega))
      exact ⟨Y, o, m, f, rfl, by have := HG3.out; simp at h1; omega, h3, by omega⟩
    clear HOWN n3 i3 hk1 hk3 n1 s1 o31 e31 e36 q1V q0 q1 q2 u1 KB HG3
    go_wp2
    clear s3
    go_loopw [15] (fun sk wr => ∃ k : Nat, k ≤ l ∧ sk = .int .i64 k ∧ Below W.heap.size W wr ∧ RowOk wr W.heap.size x3 l) (fun sk _ => l - (intOf sk).toNat)
    case atStart => exact ⟨0, by omega, rfl, below_drewN hbV _, HRow⟩
    case round =>
      obtain ⟨k, hk, rfl, hbr, hRow⟩ := hrel
      clear HRow
      have t1 : wr.cell? ⟨g1, i * 2 + 1, none⟩ = some (.slice x1 l y1) := by rw [hbr.cell (by exact World.block_lt_of_cell? _ _ hs1)]; exact hs1
      by_cases hlt : k < l
      · obtain ⟨Y, o, m, f, rfl, hY, hrow, hom⟩ := hRow (by omega)
        obtain ⟨b1, o1, rfl, hc1⟩ := hn1.plain (by omega)
        have hcw := hc1 k hlt
        have hcell : wr.cell? ⟨b1, o1 + k, none⟩ = some (.int .u8 ((Z i).getD k 0)) := by rw [hbr.cell (by exact World.block_lt_of_cell? _ _ hcw)]; exact hcw
        have hd := hrow.cell (show o + k < m by omega)
        have hfr := hrow.frozen (o + k)
        obtain ⟨c, hcd⟩ : ∃ c, c = (Z i).getD k 0 := ⟨_, rfl⟩
        obtain ⟨v0, hv0⟩ : ∃ v, v = f (o + k) := ⟨_, rfl⟩
        rw [← hcd] at hcell
        rw [← hv0] at hd
        clear hcd hv0 hcw hc1
        go_wp2
        go_roundw
        case rel => exact ⟨k + 1, by omega, by go_num, hbr.setCell (by simp; omega) _, fun _ => ⟨Y, o, m, _, rfl, hY, hrow.set (o + k) _, hom⟩⟩
        case measure => simp [intOf]; omega
      · clear hRow
        have t2 : wr.cell? ⟨g2, i * 2, none⟩ = some (.int .u8 id) := by rw [hbr.cell (by exact World.block_lt_of_cell? _ _ hi2)]; exact hi2
        have t3 : wr.cell? ⟨g2, i * 2 + 1, none⟩ = some (.slice x2 l y2) := by rw [hbr.cell (by exact World.block_lt_of_cell? _ _ hs2)]; exact hs2
        have m1 := hn1.below hbr (Nat.le_refl _)
        have m2 := hn2.below hbr (Nat.le_refl _)
        have hb : (id == id) = true := by simp
        have KS := fun (wx : World) (hx : ∀ a, wx.cell? a = wr.cell? a) => same_any wx x2 x1 l y2 y1 (Z i) (m2.congr hx) (m1.congr hx) hl
        clear m1 m2 hn1 hn2 hs1 hs2 hi2
        go_wp2
        go_quiet ((go_at_call 18; refine Calls.quiet_of (KS _ ?_); intro a; simp))
        go_wp2
        go_ret
        exact ⟨rfl, below_drewN (hbA.trans (hbr.mono hbA.size)) _⟩
end Go.Proofs.Qxb6605337a
