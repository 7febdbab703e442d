import Derived.Test.Qxb6605337aBase
namespace Go.Proofs.Qxb6605337a
open Go.ChangeShapes Go.WideShapes Go.ChangeAt Go.RowKit
set_option linter.unusedVariables false

/-- n keys (an ID, a secret) lie in a row of two cells each. I: the IDs; A, L, C: the secrets' addresses, lengths, capacities; Z: their bytes. -/
structure KeysAt (w : World) (b off n : Nat) (I : Nat → Int) (A : Nat → Option Addr) (L C : Nat → Nat) (Z : Nat → List Int) : Prop where
  id : ∀ i, i < n → w.cell? ⟨b, off + i * 2, none⟩ = some (.int .u8 (I i))
  sec : ∀ i, i < n → w.cell? ⟨b, off + i * 2 + 1, none⟩ = some (.slice (A i) (L i) (C i))
  inn : ∀ i, i < n → In w (A i) (L i) (C i) (Z i)
  bd : ∀ i, i < n → 0 ≤ I i ∧ I i ≤ 255
theorem KeysAt.below {w w' : World} {b off n B : Nat} {I : Nat → Int} {A : Nat → Option Addr} {L C : Nat → Nat} {Z : Nat → List Int} (h : KeysAt w b off n I A L C Z) (hb : Below B w w') (hB : w.heap.size ≤ B) : KeysAt w' b off n I A L C Z :=
  ⟨fun i hi => by have hc := h.id i hi; rw [hb.cell (Nat.lt_of_lt_of_le (World.block_lt_of_cell? _ _ hc) hB)]; exact hc,
   fun i hi => by have hc := h.sec i hi; rw [hb.cell (Nat.lt_of_lt_of_le (World.block_lt_of_cell? _ _ hc) hB)]; exact hc,
   fun i hi => (h.inn i hi).below hb hB, h.bd⟩
theorem KeysAt.drewN {w : World} {b off n : Nat} {I : Nat → Int} {A : Nat → Option Addr} {L C : Nat → Nat} {Z : Nat → List Int} (h : KeysAt w b off n I A L C Z) (q : Nat) : KeysAt (w.drewN q) b off n I A L C Z :=
  ⟨fun i hi => by rw [World.cell?_drewN]; exact h.id i hi, fun i hi => by rw [World.cell?_drewN]; exact h.sec i hi, fun i hi => (h.inn i hi).drewN q, h.bd⟩

/-- The slice over such a row; of an empty one nothing is known. -/
def Heads (ao : Option Addr) (n b off : Nat) : Prop := 0 < n → ao = some ⟨b, off, none⟩

/-! ### the two guards -/
/-- What keysFit leaves. -/
def FitPost (n : Nat) (L : Nat → Nat) (w : World) (e : Ending) (w' : World) : Prop := ∃ r : Bool, e = .returned (.bool r) ∧ (r = true → n ≤ 65536 ∧ ∀ i, i < n → L i ≤ 1048576) ∧ w' = w
theorem FitPost.no {n : Nat} {L : Nat → Nat} {w : World} : FitPost n L w (.returned (.bool false)) w := ⟨false, rfl, fun h => by (cases h), rfl⟩
theorem fit_big (w : World) (ao : Option Addr) (n cap : Nat) (hn : n ≤ maxLen) (L : Nat → Nat) (hb : 32768 < n) :
    Calls Try.prog 8 #[.slice ao n cap] w fun e w' => FitPost n L w e w' := by
  unfold maxLen at hn
  go_enter Try.func8, Try.ntmps8
  go_wp2
  all_goals go_ret
  all_goals exact FitPost.no

set_option maxHeartbeats 400000 in
theorem fit_small (w : World) (ao : Option Addr) (n cap b off : Nat) (hao : Heads ao n b off) (hn : n ≤ 32768) (I : Nat → Int) (A : Nat → Option Addr) (L C : Nat → Nat) (Z : Nat → List Int) (HK : KeysAt w b off n I A L C Z) (hL : Hid (∀ i, i < n → L i ≤ 9223372036854775807)) :
    Calls Try.prog 8 #[.slice ao n cap] w fun e w' => FitPost n L w e w' := by
  go_enter Try.func8, Try.ntmps8
  go_wp2
  go_loop [3, 4, 5] (fun s i _x => ∃ k t : Nat, k ≤ n ∧ i = .int .i64 k ∧ s = .int .i64 t ∧ t ≤ 1048576 ∧ Hid (∀ j, j < k → L j ≤ 1048576)) (fun _ i _ => n - (intOf i).toNat)
  case atStart => exact ⟨0, n * 32, by omega, rfl, by go_num, by omega, fun j hj => by omega⟩
  case round =>
    obtain ⟨k, t, hk, rfl, rfl, ht, H⟩ := hrel
    by_cases hlt : k < n
    · obtain rfl := hao (by omega)
      have hs := HK.sec k hlt
      have hl := hL.out k hlt
      obtain ⟨l, hld⟩ : ∃ l, l = L k := ⟨_, rfl⟩
      rw [← hld] at hs hl
      have HLk : Hid (l = L k) := hld
      clear hld
      rcases (show 1048576 < l ∨ (l ≤ 1048576 ∧ 1048576 < t + l) ∨ (l ≤ 1048576 ∧ t + l ≤ 1048576) from by omega) with h | h | h
      · go_wp2
        go_ret
        exact FitPost.no
      · go_wp2
        go_ret
        exact FitPost.no
      · have H' : Hid (∀ j, j < k + 1 → L j ≤ 1048576) := by
          intro j hj
          by_cases e : j = k
          · subst e; rw [← HLk.out]; exact h.1
          · exact H.out j (by omega)
        clear H HLk
        go_wp2
        go_round
        case rel => exact ⟨k + 1, t + l, by omega, by go_num, by go_num, by omega, H'⟩
        case measure => simp [intOf]; omega
    · have H' : Hid (∀ i, i < n → L i ≤ 1048576) := fun i hi => H.out i (by omega)
      clear H
      go_wp2
      go_ret
      exact ⟨true, rfl, fun _ => ⟨by omega, H'.out⟩, rfl⟩
theorem fit_any (w : World) (ao : Option Addr) (n cap b off : Nat) (hao : Heads ao n b off) (hn : n ≤ maxLen) (I : Nat → Int) (A : Nat → Option Addr) (L C : Nat → Nat) (Z : Nat → List Int) (HK : KeysAt w b off n I A L C Z) (hL : ∀ i, i < n → L i ≤ maxLen) :
    Calls Try.prog 8 #[.slice ao n cap] w fun e w' => FitPost n L w e w' := by
  by_cases hb : 32768 < n
  · exact fit_big w ao n cap hn L hb
  · exact fit_small w ao n cap b off hao (by omega) I A L C Z HK (by unfold maxLen at hL; exact hL)

/-- What the first guard leaves. -/
def SomeBool (w : World) (e : Ending) (w' : World) : Prop := ∃ r : Bool, e = .returned (.bool r) ∧ w' = w
set_option maxHeartbeats 400000 in
theorem zz7_any (w : World) (t s id : Int) (ao : Option Addr) (n cap b off : Nat) (hao : Heads ao n b off) (hn : n ≤ 9223372036854775807) (I : Nat → Int) (A : Nat → Option Addr) (L C : Nat → Nat) (Z : Nat → List Int) (HK : KeysAt w b off n I A L C Z) (hL : Hid (∀ i, i < n → L i ≤ 9223372036854775807)) :
    Calls Try.prog 7 #[.int .u8 t, .slice ao n cap, .int .u8 s, .int .u8 id] w fun e w' => SomeBool w e w' := by
  by_cases hb : 1048576 < n
  · go_enter Try.func7, Try.ntmps7
    go_wp2
    all_goals go_ret
    all_goals exact ⟨_, rfl, rfl⟩
  · go_enter Try.func7, Try.ntmps7
    go_wp2
    go_loop [9, 10] (fun s i => ∃ k t : Nat, k ≤ n ∧ i = .int .i64 k ∧ s = .int .i64 t ∧ t ≤ 1048576) (fun _ i => n - (intOf i).toNat)
    case atStart => exact ⟨0, n, by omega, rfl, by go_num, by omega⟩
    case round =>
      obtain ⟨k, t, hk, rfl, rfl, ht⟩ := hrel
      by_cases hlt : k < n
      · obtain rfl := hao (by omega)
        have hs := HK.sec k hlt
        have hl := hL.out k hlt
        obtain ⟨l, hld⟩ : ∃ l, l = L k := ⟨_, rfl⟩
        rw [← hld] at hs hl
        clear hld
        rcases (show 1048576 < l ∨ (l ≤ 1048576 ∧ 1048576 < t + l) ∨ (l ≤ 1048576 ∧ t + l ≤ 1048576) from by omega) with h | h | h
        · go_wp2
          go_ret
          exact ⟨_, rfl, rfl⟩
        · go_wp2
          go_ret
          exact ⟨_, rfl, rfl⟩
        · go_wp2
          go_round
          case rel => exact ⟨k + 1, t + l, by omega, by go_num, by go_num, by omega⟩
          case measure => simp [intOf]; omega
      · go_wp2
        go_ret
        exact ⟨_, rfl, rfl⟩
set_option maxHeartbeats 400000 in
theorem zz17_any (w : World) (t s id : Int) (ao : Option Addr) (n cap b off : Nat) (hao : Heads ao n b off) (hn : n ≤ 9223372036854775807) (I : Nat → Int) (A : Nat → Option Addr) (L C : Nat → Nat) (Z : Nat → List Int) (HK : KeysAt w b off n I A L C Z) (hL : Hid (∀ i, i < n → L i ≤ 9223372036854775807)) :
    Calls Try.prog 17 #[.int .u8 t, .slice ao n cap, .int .u8 s, .int .u8 id] w fun e w' => SomeBool w e w' := by
  by_cases hb : 1048576 < n
  · go_enter Try.func17, Try.ntmps17
    go_wp2
    all_goals go_ret
    all_goals exact ⟨_, rfl, rfl⟩
  · go_enter Try.func17, Try.ntmps17
    go_wp2
    go_loop [9, 10] (fun s i => ∃ k t : Nat, k ≤ n ∧ i = .int .i64 k ∧ s = .int .i64 t ∧ t ≤ 1048576) (fun _ i => n - (intOf i).toNat)
    case atStart => exact ⟨0, n, by omega, rfl, by go_num, by omega⟩
    case round =>
      obtain ⟨k, t, hk, rfl, rfl, ht⟩ := hrel
      by_cases hlt : k < n
      · obtain rfl := hao (by omega)
        have hs := HK.sec k hlt
        have hl := hL.out k hlt
        obtain ⟨l, hld⟩ : ∃ l, l = L k := ⟨_, rfl⟩
        rw [← hld] at hs hl
        clear hld
        rcases (show 1048576 < l ∨ (l ≤ 1048576 ∧ 1048576 < t + l) ∨ (l ≤ 1048576 ∧ t + l ≤ 1048576) from by omega) with h | h | h
        · go_wp2
          go_ret
          exact ⟨_, rfl, rfl⟩
        · go_wp2
          go_ret
          exact ⟨_, rfl, rfl⟩
        · go_wp2
          go_round
          case rel => exact ⟨k + 1, t + l, by omega, by go_num, by go_num, by omega⟩
          case measure => simp [intOf]; omega
      · go_wp2
        go_ret
        exact ⟨_, rfl, rfl⟩
set_option maxHeartbeats 400000 in
theorem zz14_any (w : World) (t s : Int) (ao : Option Addr) (n cap b off : Nat) (hao : Heads ao n b off) (hn : n ≤ 9223372036854775807) (I : Nat → Int) (A : Nat → Option Addr) (L C : Nat → Nat) (Z : Nat → List Int) (HK : KeysAt w b off n I A L C Z) (hL : Hid (∀ i, i < n → L i ≤ 9223372036854775807)) :
    Calls Try.prog 14 #[.int .u8 t, .slice ao n cap, .int .u8 s] w fun e w' => SomeBool w e w' := by
  by_cases hb : 1048576 < n
  · go_enter Try.func14, Try.ntmps14
    go_wp2
    all_goals go_ret
    all_goals exact ⟨_, rfl, rfl⟩
  · go_enter Try.func14, Try.ntmps14
    go_wp2
    go_loop [7, 8] (fun s i => ∃ k t : Nat, k ≤ n ∧ i = .int .i64 k ∧ s = .int .i64 t ∧ t ≤ 1048576) (fun _ i => n - (intOf i).toNat)
    case atStart => exact ⟨0, n, by omega, rfl, by go_num, by omega⟩
    case round =>
      obtain ⟨k, t, hk, rfl, rfl, ht⟩ := hrel
      by_cases hlt : k < n
      · obtain rfl := hao (by omega)
        have hs := HK.sec k hlt
        have hl := hL.out k hlt
        obtain ⟨l, hld⟩ : ∃ l, l = L k := ⟨_, rfl⟩
        rw [← hld] at hs hl
        clear hld
        rcases (show 1048576 < l ∨ (l ≤ 1048576 ∧ 1048576 < t + l) ∨ (l ≤ 1048576 ∧ t + l ≤ 1048576) from by omega) with h | h | h
        · go_wp2
          go_ret
          exact ⟨_, rfl, rfl⟩
        · go_wp2
          go_ret
          exact ⟨_, rfl, rfl⟩
        · go_wp2
          go_round
          case rel => exact ⟨k + 1, t + l, by omega, by go_num, by go_num, by omega⟩
          case measure => simp [intOf]; omega
      · go_wp2
        go_ret
        exact ⟨_, rfl, rfl⟩
end Go.Proofs.Qxb6605337a
