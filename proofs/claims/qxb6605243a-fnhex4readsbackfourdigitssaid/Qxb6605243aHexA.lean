import Derived.Test.Qxb6605243aRows
import Derived.Test.Qxb6605243aPlain
import Derived.WalkKit
import Derived.ProofKit
import Derived.Below
import Derived.Laws.DeepBits32
import Derived.Laws.BitsAllLaws
namespace Go.Proofs.Qxb6605243a
open Go.ChangeShapes Go.WideShapes Go.ChangeAt Go.RowKit
set_option linter.unusedVariables false

theorem or16 (r d : Int) (h0 : 0 ≤ r) (h1 : r < 4096) (h2 : 0 ≤ d) (h3 : d < 16) : bits .or .i32 (r * 16) d = r * 16 + d := by
  obtain ⟨x, rfl⟩ := Int.eq_ofNat_of_zero_le h0
  obtain ⟨y, rfl⟩ := Int.eq_ofNat_of_zero_le h2
  have e : x * 16 ||| y = x * 16 + y := nat_join 4 _ _ (by omega) (by omega)
  show IntKind.i32.wrap ((BitVec.ofInt 32 ((x : Int) * 16) ||| BitVec.ofInt 32 (y : Int)).toNat : Int) = _
  rw [show ((x : Int) * 16) = ((x * 16 : Nat) : Int) from by omega, BitVec.toNat_or, ofInt_u32 (x * 16) (by omega), ofInt_u32 y (by omega), e, wrap_i32_small _ (by omega) (by omega)]
  omega

theorem hexAcc_hit {zs : List Int} {k : Nat} {r c d : Int} (H : Hid (Plain.hexAcc 0 zs = Plain.hexAcc r (zs.drop k))) (hk : k < zs.length) (hc : Hid (c = zs.getD k 0)) (hd : Plain.hexv c = some d) :
    Hid (Plain.hexAcc 0 zs = Plain.hexAcc (r * 16 + d) (zs.drop (k + 1))) := by
  have e : zs.drop k = c :: zs.drop (k + 1) := by
    rw [hc.out, List.drop_eq_getElem_cons hk]; simp [List.getD, hk]
  unfold Hid
  rw [H.out, e, Plain.hexAcc, hd]
theorem hexAcc_miss {zs : List Int} {k : Nat} {r c : Int} (H : Hid (Plain.hexAcc 0 zs = Plain.hexAcc r (zs.drop k))) (hk : k < zs.length) (hc : Hid (c = zs.getD k 0)) (hd : Plain.hexv c = none) :
    Plain.hexAcc 0 zs = none := by
  have e : zs.drop k = c :: zs.drop (k + 1) := by
    rw [hc.out, List.drop_eq_getElem_cons hk]; simp [List.getD, hk]
  rw [H.out, e, Plain.hexAcc, hd]
theorem pow16 {k : Nat} {r d : Int} (hk : k < 4) (h0 : 0 ≤ r) (h1 : r < 16 ^ k) (h2 : 0 ≤ d) (h3 : d ≤ 15) : 0 ≤ r * 16 + d ∧ r * 16 + d < 16 ^ (k + 1) := by
  match k, hk with
  | 0, _ => simp at h1 ⊢; omega
  | 1, _ => simp at h1 ⊢; omega
  | 2, _ => simp at h1 ⊢; omega
  | 3, _ => simp at h1 ⊢; omega
theorem pow16_lt {k : Nat} {r : Int} (hk : k < 4) (h1 : r < 16 ^ k) : r < 4096 := by
  match k, hk with
  | 0, _ => simp at h1; omega
  | 1, _ => simp at h1; omega
  | 2, _ => simp at h1; omega
  | 3, _ => simp at h1; omega
theorem ret_hex {r : Int} {b : Bool} {o : Option Int} (h : o = if b then some r else none) (h0 : b = false → r = 0) : Ending.returned (.tuple #[.int .i32 r, .bool b]) = .returned (.tuple #[.int .i32 (o.getD 0), .bool o.isSome]) := by
  subst h; cases b
  · simp [h0 rfl]
  · simp

theorem hex4_short (a : Option Addr) (len cap : Nat) (h : len < 4) (w : World) :
    Calls Try.prog 21 #[.slice a len cap] w fun e w' => e = .returned (.tuple #[.int .i32 0, .bool false]) ∧ w' = w := by
  go_enter Try.func21, Try.ntmps21
  go_wp2
  go_ret2
  exact ⟨rfl, rfl⟩

set_option maxHeartbeats 400000 in
theorem hex4_long (b off len cap : Nat) (h4 : 4 ≤ len) (hlc : len ≤ cap) (hm : cap ≤ maxLen) (zs : List Int) (hz : zs.length = 4) (w : World)
    (hbd : ∀ i, 0 ≤ zs.getD i 0 ∧ zs.getD i 0 ≤ 255)
    (hc : ∀ i, i < 4 → w.cell? ⟨b, off + i, none⟩ = some (.int .u8 (zs.getD i 0))) :
    Calls Try.prog 21 #[.slice (some ⟨b, off, none⟩) len cap] w fun e w' => e = .returned (.tuple #[.int .i32 ((Plain.hexAcc 0 zs).getD 0), .bool (Plain.hexAcc 0 zs).isSome]) ∧ w' = w := by
  unfold maxLen at hm
  go_enter Try.func21, Try.ntmps21
  go_wp2
  go_loop [4, 13] (fun r i => ∃ k : Nat, ∃ ρ : Int, k ≤ 4 ∧ i = .int .i64 k ∧ r = .int .i32 ρ ∧ 0 ≤ ρ ∧ Hid (ρ < 16 ^ k) ∧ Hid (Plain.hexAcc 0 zs = Plain.hexAcc ρ (zs.drop k))) (fun _ i => 4 - (intOf i).toNat)
  case atStart => exact ⟨0, 0, by omega, rfl, rfl, by omega, by simp [Hid], by simp [Hid]⟩
  case round =>
    obtain ⟨k, ρ, hk, rfl, rfl, h0, h1, H⟩ := hrel
    by_cases hlt : k < 4
    · obtain ⟨c, hcd⟩ : ∃ c, c = zs.getD k 0 := ⟨_, rfl⟩
      have hcell := hc k hlt
      have hb := hbd k
      rw [← hcd] at hcell hb
      have HC : Hid (c = zs.getD k 0) := hcd
      clear hcd hc hbd
      have hρ := pow16_lt hlt h1.out
      rcases (show (48 ≤ c ∧ c ≤ 57) ∨ (97 ≤ c ∧ c ≤ 102) ∨ (65 ≤ c ∧ c ≤ 70) ∨ c < 48 ∨ (57 < c ∧ c < 65) ∨ (70 < c ∧ c < 97) ∨ 102 < c from by omega) with h | h | h | h | h | h | h
      · have e := or16 ρ (c - 48) h0 hρ (by omega) (by omega)
        have hv : Hid (Plain.hexv c = some (c - 48)) := by unfold Hid Plain.hexv; rw [if_pos h]
        have hp := pow16 hlt h0 h1.out (d := c - 48) (by omega) (by omega)
        have H' := hexAcc_hit H (by omega) HC hv.out
        have HP : Hid (ρ * 16 + (c - 48) < 16 ^ (k + 1)) := hp.2
        have hp1 := hp.1
        clear H h1 hp
        go_wp2
        go_round
        case rel => exact ⟨k + 1, ρ * 16 + (c - 48), by omega, by go_num, rfl, hp1, HP, H'⟩
        case measure => simp [intOf]; omega
      · have e := or16 ρ (c - 87) h0 hρ (by omega) (by omega)
        have hv : Hid (Plain.hexv c = some (c - 87)) := by unfold Hid Plain.hexv; rw [if_neg (by omega), if_pos h]
        have hp := pow16 hlt h0 h1.out (d := c - 87) (by omega) (by omega)
        have H' := hexAcc_hit H (by omega) HC hv.out
        have HP : Hid (ρ * 16 + (c - 87) < 16 ^ (k + 1)) := hp.2
        have hp1 := hp.1
        clear H h1 hp
        go_wp2
        go_round
        case rel => exact ⟨k + 1, ρ * 16 + (c - 87), by omega, by go_num, rfl, hp1, HP, H'⟩
        case measure => simp [intOf]; omega
      · have e := or16 ρ (c - 55) h0 hρ (by omega) (by omega)
        have hv : Hid (Plain.hexv c = some (c - 55)) := by unfold Hid Plain.hexv; rw [if_neg (by omega), if_neg (by omega), if_pos h]
        have hp := pow16 hlt h0 h1.out (d := c - 55) (by omega) (by omega)
        have H' := hexAcc_hit H (by omega) HC hv.out
        have HP : Hid (ρ * 16 + (c - 55) < 16 ^ (k + 1)) := hp.2
        have hp1 := hp.1
        clear H h1 hp
        go_wp2
        go_round
        case rel => exact ⟨k + 1, ρ * 16 + (c - 55), by omega, by go_num, rfl, hp1, HP, H'⟩
        case measure => simp [intOf]; omega
      all_goals
        have hv : Hid (Plain.hexv c = none) := by unfold Hid Plain.hexv; rw [if_neg (by omega), if_neg (by omega), if_neg (by omega)]
        have H' : Hid (Plain.hexAcc 0 zs = none) := hexAcc_miss H (by omega) HC hv.out
        clear H hv
        go_wp2
        go_ret2
        exact ⟨ret_hex (b := false) (by simpa using H'.out) (fun _ => rfl), rfl⟩
    · have e4 : k = 4 := by omega
      subst e4
      have H' : Hid (Plain.hexAcc 0 zs = some ρ) := by
        have := H.out
        rw [List.drop_of_length_le (by omega)] at this
        exact this
      clear H h1
      go_wp2
      go_ret2
      exact ⟨ret_hex (b := true) (by simpa using H'.out) (by simp), rfl⟩

theorem zzhex4_short (a : Option Addr) (len cap : Nat) (h : len < 4) (w : World) :
    Calls Try.prog 9 #[.slice a len cap] w fun e w' => e = .returned (.tuple #[.int .i32 0, .bool false]) ∧ w' = w := by
  go_enter Try.func9, Try.ntmps9
  go_wp2_with (go_at_call 21; refine (hex4_short _ _ _ h _).mono ?_; rintro e w' ⟨rfl, rfl⟩)
  go_ret2
  exact ⟨rfl, rfl⟩
theorem zzhex4_long (b off len cap : Nat) (h4 : 4 ≤ len) (hlc : len ≤ cap) (hm : cap ≤ maxLen) (zs : List Int) (hz : zs.length = 4) (w : World)
    (hbd : ∀ i, 0 ≤ zs.getD i 0 ∧ zs.getD i 0 ≤ 255)
    (hc : ∀ i, i < 4 → w.cell? ⟨b, off + i, none⟩ = some (.int .u8 (zs.getD i 0))) :
    Calls Try.prog 9 #[.slice (some ⟨b, off, none⟩) len cap] w fun e w' => e = .returned (.tuple #[.int .i32 ((Plain.hexAcc 0 zs).getD 0), .bool (Plain.hexAcc 0 zs).isSome]) ∧ w' = w := by
  have K := hex4_long b off len cap h4 hlc hm zs hz w hbd hc
  clear hbd hc
  go_enter Try.func9, Try.ntmps9
  go_wp2_with (go_at_call 21; refine K.mono ?_; rintro e w' ⟨rfl, rfl⟩)
  go_ret2
  exact ⟨rfl, rfl⟩

end Go.Proofs.Qxb6605243a
