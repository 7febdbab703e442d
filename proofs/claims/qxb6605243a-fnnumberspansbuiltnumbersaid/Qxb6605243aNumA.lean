import Derived.Test.Qxb6605243aRows
import Derived.Test.Qxb6605243aPlain
import Derived.WalkKit
import Derived.ProofKit
import Derived.Below
namespace Go.Proofs.Qxb6605243a
open Go.ChangeShapes Go.WideShapes Go.ChangeAt Go.RowKit
set_option linter.unusedVariables false

/-- What the walk knows of the data: n bytes zs, at the head of block g. -/
structure Bytes (w : World) (g n : Nat) (zs : List Int) : Prop where
  len : zs.length = n
  bd : ∀ i, 0 ≤ zs.getD i 0 ∧ zs.getD i 0 ≤ 255
  cell : ∀ i, i < n → w.cell? ⟨g, i, none⟩ = some (.int .u8 (zs.getD i 0))
theorem Bytes.below {w w' : World} {g n B : Nat} {zs : List Int} (h : Bytes w g n zs) (hb : Below B w w') (hg : g < B) : Bytes w' g n zs :=
  ⟨h.len, h.bd, fun i hi => by rw [hb.cell (by exact hg)]; exact h.cell i hi⟩
theorem Bytes.drop {w : World} {g n : Nat} {zs : List Int} (h : Bytes w g n zs) {k : Nat} (hk : k < n) : zs.drop k = zs.getD k 0 :: zs.drop (k + 1) := by
  have := h.len
  rw [List.drop_eq_getElem_cons (by omega)]; simp [List.getD, show k < zs.length by omega]
theorem Bytes.drop_end {w : World} {g n : Nat} {zs : List Int} (h : Bytes w g n zs) {k : Nat} (hk : n ≤ k) : zs.drop k = [] := by
  have := h.len
  exact List.drop_of_length_le (by omega)

theorem ret_i64 {a b : Int} (h : a = b) : Ending.returned (.int .i64 a) = .returned (.int .i64 b) := by rw [h]

set_option maxHeartbeats 400000 in
theorem digits_any (g n cap : Nat) (hn : n ≤ 1099511627776) (zs : List Int) (i : Nat) (hi : i ≤ n) (w : World) (HZ : Bytes w g n zs) :
    Calls Try.prog 24 #[.slice (some ⟨g, 0, none⟩) n cap, .int .i64 (i : Int)] w fun e w' => e = .returned (.int .i64 ((i + Plain.digN (zs.drop i) : Nat) : Int)) ∧ w' = w := by
  go_enter Try.func24, Try.ntmps24
  go_wp2
  go_loop [1] (fun s => ∃ k : Nat, k ≤ n ∧ s = .int .i64 k ∧ Hid (i + Plain.digN (zs.drop i) = k + Plain.digN (zs.drop k))) (fun s => n - (intOf s).toNat)
  case atStart => exact ⟨i, hi, rfl, rfl⟩
  case round =>
    obtain ⟨k, hk, rfl, H⟩ := hrel
    by_cases hlt : k < n
    · obtain ⟨c, hcd⟩ : ∃ c, c = zs.getD k 0 := ⟨_, rfl⟩
      have hcell := HZ.cell k hlt
      have hb := HZ.bd k
      have hdr := HZ.drop hlt
      rw [← hcd] at hcell hb hdr
      have HD : Hid (zs.drop k = c :: zs.drop (k + 1)) := hdr
      clear hcd hdr
      rcases (show (48 ≤ c ∧ c ≤ 57) ∨ c < 48 ∨ 57 < c from by omega) with h | h | h
      · have H' : Hid (i + Plain.digN (zs.drop i) = (k + 1) + Plain.digN (zs.drop (k + 1))) := by
          unfold Hid; rw [H.out, HD.out, Plain.digN_hit (Plain.isDig_true.2 h)]; omega
        clear H HD
        go_wp2
        go_round
        case rel => exact ⟨k + 1, by omega, by go_num, H'⟩
        case measure => simp [intOf]; omega
      all_goals
        have H' : Hid (i + Plain.digN (zs.drop i) = k) := by
          unfold Hid; rw [H.out, HD.out, Plain.digN_miss (Plain.isDig_false.2 (by omega))]; omega
        clear H HD
        go_wp2
        go_ret
        exact ⟨ret_i64 (by have := H'.out; omega), rfl⟩
    · have H' : Hid (i + Plain.digN (zs.drop i) = k) := by
        unfold Hid; rw [H.out, HZ.drop_end (by omega)]; rfl
      clear H
      go_wp2
      go_ret
      exact ⟨ret_i64 (by have := H'.out; omega), rfl⟩
end Go.Proofs.Qxb6605243a
