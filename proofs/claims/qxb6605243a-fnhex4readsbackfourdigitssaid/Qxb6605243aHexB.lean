import Derived.Test.Qxb6605243aHexA
namespace Go.Proofs.Qxb6605243a
open Go.ChangeShapes Go.WideShapes Go.ChangeAt Go.RowKit
set_option linter.unusedVariables false

/-- The written list of digits. -/
def SB : ByteArray := { data := #[48, 49, 50, 51, 52, 53, 54, 55, 56, 57, 97, 98, 99, 100, 101, 102, 48, 49, 50, 51, 52, 53, 54, 55, 56, 57, 65, 66, 67, 68, 69, 70] }
theorem SB_size : SB.size = 32 := rfl
theorem SB_hit : ∀ k : Fin 32, Plain.hexv ((SB[k.1]'(by rw [SB_size]; exact k.2)).toNat : Int) = some ((k.1 % 16 : Nat) : Int) := by decide
theorem SB_all : ∀ c : Fin 256, (∀ k : Fin 32, (((SB[k.1]'(by rw [SB_size]; exact k.2)).toNat : Int) == (c.1 : Int)) = false) → Plain.hexv (c.1 : Int) = none := by decide +kernel
theorem hit_at {k : Nat} {hk : k < SB.size} {c : Int} (h : (((SB[k]'hk).toNat : Int) == c) = true) : Plain.hexv c = some ((k % 16 : Nat) : Int) := by
  have e : ((SB[k]'hk).toNat : Int) = c := by simpa using h
  rw [← e]
  exact SB_hit ⟨k, hk⟩
theorem miss_all {c : Int} (h0 : 0 ≤ c) (h1 : c ≤ 255) (h : ∀ m (hm : m < SB.size), (((SB[m]'hm).toNat : Int) == c) = false) : Plain.hexv c = none := by
  obtain ⟨n, rfl⟩ := Int.eq_ofNat_of_zero_le h0
  exact SB_all ⟨n, by omega⟩ (fun k => h k.1 (by rw [SB_size]; exact k.2))
theorem ret_dig {r : Int} {b : Bool} {o : Option Int} (h : o = if b then some r else none) (h0 : b = false → r = 0) : Ending.returned (.tuple #[.int .i32 r, .bool b]) = .returned (.tuple #[.int .i32 (o.getD 0), .bool o.isSome]) := ret_hex h h0

set_option maxHeartbeats 400000 in
theorem search_any (c : Int) (h0 : 0 ≤ c) (h1 : c ≤ 255) (w : World) :
    Calls Try.prog 8 #[.int .u8 c] w fun e w' => e = .returned (.tuple #[.int .i32 ((Plain.hexv c).getD 0), .bool (Plain.hexv c).isSome]) ∧ w' = w := by
  go_enter Try.func8, Try.ntmps8
  go_wp2
  go_loop [4] (fun i => ∃ k : Nat, k ≤ 32 ∧ i = .int .i64 k ∧ Hid (∀ m (hm : m < SB.size), m < k → (((SB[m]'hm).toNat : Int) == c) = false)) (fun i => 32 - (intOf i).toNat)
  case atStart => exact ⟨0, by omega, rfl, fun m _ h => by omega⟩
  case round =>
    obtain ⟨k, hk, rfl, H⟩ := hrel
    by_cases hlt : k < 32
    · go_wp2
      · have hh := hit_at (k := k) (hk := by rw [SB_size]; exact hlt) (c := c) (by assumption)
        go_ret2
        refine ⟨ret_dig (b := true) ?_ (by simp), rfl⟩
        rw [hh]; simp
      · have hn : (((SB[k]'(by rw [SB_size]; exact hlt)).toNat : Int) == c) = false := by assumption
        go_round
        case rel =>
          refine ⟨k + 1, by omega, by go_num, ?_⟩
          intro m hm hmk
          by_cases e : m = k
          · subst e; exact hn
          · exact H.out m hm (by omega)
        case measure => simp [intOf]; omega
    · have hn : Hid (Plain.hexv c = none) := miss_all h0 h1 (fun m hm => H.out m hm (by rw [SB_size] at hm; omega))
      go_wp2
      go_ret2
      exact ⟨ret_dig (b := false) (by simpa using hn.out) (fun _ => rfl), rfl⟩

theorem zzhex4_none (b len cap : Nat) (h4 : 4 ≤ len) (hlc : len ≤ cap) (hm : cap ≤ maxLen) (zs : List Int) (hz : zs.length = 4) (w : World)
    (hbd : ∀ i, 0 ≤ zs.getD i 0 ∧ zs.getD i 0 ≤ 255) (hc : ∀ i, i < 4 → w.cell? ⟨b, i, none⟩ = some (.int .u8 (zs.getD i 0))) (h : Plain.hexAcc 0 zs = none) :
    Calls Try.prog 9 #[.slice (some ⟨b, 0, none⟩) len cap] w fun e w' => e = .returned (.tuple #[.int .i32 0, .bool false]) ∧ w' = w := by
  have K := zzhex4_long b 0 len cap h4 hlc hm zs hz w hbd (fun i hi => by rw [Nat.zero_add]; exact hc i hi)
  rw [h] at K; exact K
theorem zzhex4_some (b len cap : Nat) (h4 : 4 ≤ len) (hlc : len ≤ cap) (hm : cap ≤ maxLen) (zs : List Int) (hz : zs.length = 4) (w : World)
    (hbd : ∀ i, 0 ≤ zs.getD i 0 ∧ zs.getD i 0 ≤ 255) (hc : ∀ i, i < 4 → w.cell? ⟨b, i, none⟩ = some (.int .u8 (zs.getD i 0))) (r : Int) (h : Plain.hexAcc 0 zs = some r) :
    Calls Try.prog 9 #[.slice (some ⟨b, 0, none⟩) len cap] w fun e w' => e = .returned (.tuple #[.int .i32 r, .bool true]) ∧ w' = w := by
  have K := zzhex4_long b 0 len cap h4 hlc hm zs hz w hbd (fun i hi => by rw [Nat.zero_add]; exact hc i hi)
  rw [h] at K; exact K
end Go.Proofs.Qxb6605243a
