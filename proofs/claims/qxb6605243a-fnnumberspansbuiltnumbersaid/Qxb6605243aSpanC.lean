import Derived.Test.Qxb6605243aSpanA
namespace Go.Proofs.Qxb6605243a
open Go.ChangeShapes Go.WideShapes Go.ChangeAt Go.RowKit
set_option linter.unusedVariables false

theorem bytes_of_own {w : World} {base g n cap : Nat} {zs : List Int} (h : w.ownsRow base 5 1 (.slice (some ⟨g, 0, none⟩) n cap) n (zs.map (Value.int .u8))) (hl : zs.length = n) (hb : ∀ i, 0 ≤ zs.getD i 0 ∧ zs.getD i 0 ≤ 255) : Bytes w g n zs := by
  refine ⟨hl, hb, fun i hi => ?_⟩
  rw [h.cellAt i (by omega)]
  simp [List.getD, show i < zs.length by omega]
theorem app_bd {xs ys : List Int} (hx : ∀ i, 0 ≤ xs.getD i 0 ∧ xs.getD i 0 ≤ 255) (hy : ∀ i, 0 ≤ ys.getD i 0 ∧ ys.getD i 0 ≤ 255) : ∀ i, 0 ≤ (xs ++ ys).getD i 0 ∧ (xs ++ ys).getD i 0 ≤ 255 := by
  intro i
  have h1 := hx i
  have h2 := hy (i - xs.length)
  simp only [List.getD, List.getElem?_append] at h1 h2 ⊢
  split
  · exact h1
  · exact h2

set_option maxHeartbeats 1000000 in
theorem concat_any (w : World) (a1 a2 a3 : Option Addr) (n1 c1 n2 c2 n3 c3 : Nat) (z1 z2 z3 : List Int) (h1 : In w a1 n1 c1 z1) (h2 : In w a2 n2 c2 z2) (h3 : In w a3 n3 c3 z3) (hs : n1 + n2 + n3 ≤ 4194304) :
    Calls Try.prog 20 #[.slice a1 n1 c1, .slice a2 n2 c2, .slice a3 n3 c3] w fun e w' => e = .returned (.slice (some ⟨w.heap.size, 0, none⟩) (n1 + n2 + n3) (n1 + n2 + n3)) ∧ Bytes w' w.heap.size (n1 + n2 + n3) (z1 ++ (z2 ++ z3)) ∧ Below w.heap.size w w' := by
  obtain ⟨i0, hi, hz0, hz1, hz2⟩ := info_parts Try.info5
  have m1 : (z1.map (Value.int .u8)).length = n1 * 1 := by have := h1.len; simp; omega
  have m2 : (z2.map (Value.int .u8)).length = n2 * 1 := by have := h2.len; simp; omega
  have m3 : (z3.map (Value.int .u8)).length = n3 * 1 := by have := h3.len; simp; omega
  have M1 : Hid ((z1.map (Value.int .u8)).length = n1 * 1) := m1
  have M2 : Hid ((z2.map (Value.int .u8)).length = n2 * 1) := m2
  have M3 : Hid ((z3.map (Value.int .u8)).length = n3 * 1) := m3
  clear m1 m2 m3
  go_enter Try.func20, Try.ntmps20
  go_wp2_with (first
    | (at_make; refine wpList_make_own _ rfl (.const (.int .i64 0)) (.tmp 15) 22 rfl w.heap.size 5 i0 (.int .u8 0) 1 Try.underlying22 hi hz0 hz1 .i64 .i64 _ (n1 + n2 + n3) rfl rfl (by omega) (by rw [hz2]; omega) (by unfold maxLen; omega) (Nat.le_refl _) ?_; intro w1 hown1 hgrow1; have hb1 := below_made hgrow1; clear hgrow1)
    | (at_builtin; refine wpList_append_fits_any _ rfl (.tmp 17) (.tmp 18) 22 rfl w.heap.size 5 i0 1 Try.underlying22 hi hz1 w.heap.size 0 (n1 + n2 + n3) _ rfl hown1 a1 n1 c1 (z1.map (Value.int .u8)) rfl M1.out h1.isNil (h1.below hb1 (Nat.le_refl _)).src (ints_oneCell _ _) (by omega) ?_; intro w2 hown2 hgrow2; have hb2 := hb1.grown hgrow2 hb1.size (by simp); simp only [Nat.zero_add, List.nil_append] at hown2; clear hown1 hb1 hgrow2)
    | (at_builtin; refine wpList_append_fits_any _ rfl (.tmp 20) (.tmp 21) 22 rfl w.heap.size 5 i0 1 Try.underlying22 hi hz1 w.heap.size n1 (n1 + n2 + n3) _ rfl hown2 a2 n2 c2 (z2.map (Value.int .u8)) rfl M2.out h2.isNil (h2.below hb2 (Nat.le_refl _)).src (ints_oneCell _ _) (by omega) ?_; intro w3 hown3 hgrow3; have hb3 := hb2.grown hgrow3 hb2.size (by simp); clear hown2 hb2 hgrow3)
    | (at_builtin; refine wpList_append_fits_any _ rfl (.tmp 23) (.tmp 24) 22 rfl w.heap.size 5 i0 1 Try.underlying22 hi hz1 w.heap.size (n1 + n2) (n1 + n2 + n3) _ rfl hown3 a3 n3 c3 (z3.map (Value.int .u8)) rfl M3.out h3.isNil (h3.below hb3 (Nat.le_refl _)).src (ints_oneCell _ _) (by omega) ?_; intro w4 hown4 hgrow4; have hb4 := hb3.grown hgrow4 hb3.size (by simp); clear hown3 hb3 hgrow4))
  go_ret
  refine ⟨rfl, bytes_of_own (zs := z1 ++ (z2 ++ z3)) (by simpa using hown4) (by have := h1.len; have := h2.len; have := h3.len; simp; omega) (app_bd h1.bd (app_bd h2.bd h3.bd)), hb4⟩
end Go.Proofs.Qxb6605243a
