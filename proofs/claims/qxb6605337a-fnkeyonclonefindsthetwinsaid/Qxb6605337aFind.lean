import Derived.Test.Qxb6605337aKeys
namespace Go.Proofs.Qxb6605337a
open Go.ChangeShapes Go.WideShapes Go.ChangeAt Go.RowKit
set_option linter.unusedVariables false

/-! ### the first index with an ID: plain -/
/-- r is the least index from k on (below n) whose ID is id. -/
def FirstFrom (I : Nat → Int) (id : Int) (k n : Nat) : Option Nat → Prop
  | some i => k ≤ i ∧ i < n ∧ I i = id ∧ ∀ j, k ≤ j → j < i → I j ≠ id
  | none => ∀ j, k ≤ j → j < n → I j ≠ id
theorem firstFrom_step (I : Nat → Int) (id : Int) (k n : Nat) (r : Option Nat) (hk : k < n) (h : FirstFrom I id (k + 1) n r) : FirstFrom I id k n (if I k = id then some k else r) := by
  by_cases e : I k = id
  · rw [if_pos e]; exact ⟨Nat.le_refl _, hk, e, fun j h1 h2 => by omega⟩
  · rw [if_neg e]
    cases r with
    | none =>
      intro j h1 h2
      by_cases ej : j = k
      · subst ej; exact e
      · exact h j (by omega) h2
    | some i =>
      obtain ⟨h1, h2, h3, h4⟩ := h
      refine ⟨by omega, h2, h3, fun j g1 g2 => ?_⟩
      by_cases ej : j = k
      · subst ej; exact e
      · exact h4 j (by omega) g2
theorem firstFrom_exists (I : Nat → Int) (id : Int) (n : Nat) : ∃ r, FirstFrom I id 0 n r := by
  suffices h : ∀ m, m ≤ n → ∃ r, FirstFrom I id (n - m) n r by simpa using h n (Nat.le_refl _)
  intro m
  induction m with
  | zero => intro _; exact ⟨none, fun j h1 h2 => by omega⟩
  | succ m ih =>
    intro hm
    obtain ⟨r, hr⟩ := ih (by omega)
    exact ⟨_, firstFrom_step I id (n - (m + 1)) n r (by omega) (by rw [show n - (m + 1) + 1 = n - m by omega]; exact hr)⟩
theorem firstFrom_unique {I : Nat → Int} {id : Int} {n : Nat} {r r' : Option Nat} (h : FirstFrom I id 0 n r) (h' : FirstFrom I id 0 n r') : r = r' := by
  cases r with
  | none =>
    cases r' with
    | none => rfl
    | some i => exact absurd h'.2.2.1 (h i (Nat.zero_le _) h'.2.1)
  | some i =>
    cases r' with
    | none => exact absurd h.2.2.1 (h' i (Nat.zero_le _) h.2.1)
    | some i' =>
      obtain ⟨_, h1, h2, h3⟩ := h
      obtain ⟨_, g1, g2, g3⟩ := h'
      rcases Nat.lt_trichotomy i i' with e | e | e
      · exact absurd h2 (g3 i (Nat.zero_le _) e)
      · rw [e]
      · exact absurd g2 (h3 i' (Nat.zero_le _) e)
/-- The index as the law writes it: -1 for none. -/
def wantV : Option Nat → Int | some i => (i : Int) | none => -1

/-! ### firstIndexFromBack -/
set_option maxHeartbeats 400000 in
theorem back_any (w : World) (ao : Option Addr) (n cap b off : Nat) (hao : Heads ao n b off) (hn : n ≤ 65536) (I : Nat → Int) (A : Nat → Option Addr) (L C : Nat → Nat) (Z : Nat → List Int) (HK : KeysAt w b off n I A L C Z) (id : Int) (r : Option Nat) (hr : Hid (FirstFrom I id 0 n r)) :
    Calls Try.prog 12 #[.slice ao n cap, .int .u8 id] w fun e w' => e = .returned (.int .i64 (wantV r)) ∧ w' = w := by
  go_enter Try.func12, Try.ntmps12
  go_wp2
  go_loop [5, 6] (fun s i => ∃ k : Nat, ∃ q, k ≤ n ∧ i = .int .i64 ((k : Int) - 1) ∧ s = .int .i64 (wantV q) ∧ Hid (FirstFrom I id k n q)) (fun _ i => (intOf i + 1).toNat)
  case atStart => exact ⟨n, none, Nat.le_refl _, rfl, rfl, fun j h1 h2 => by omega⟩
  case round =>
    obtain ⟨k, q, hk, rfl, rfl, H⟩ := hrel
    by_cases hlt : 0 < k
    · obtain ⟨m, rfl⟩ : ∃ m, k = m + 1 := ⟨k - 1, by omega⟩
      obtain rfl := hao (by omega)
      have hid := HK.id m (by omega)
      have hs := firstFrom_step I id m n q (by omega) H.out
      have ei : (((m + 1 : Nat) : Int) - 1) = (m : Int) := by omega
      rw [ei]
      obtain ⟨c, hcd⟩ : ∃ c, c = I m := ⟨_, rfl⟩
      rw [← hcd] at hid hs
      clear hcd ei H
      by_cases e : c = id
      · rw [if_pos e] at hs
        have HS : Hid (FirstFrom I id m n (some m)) := hs
        have hb : (c == id) = true := by simpa using e
        clear hs e
        go_wp2
        go_round
        case rel => exact ⟨m, some m, by omega, rfl, rfl, HS⟩
        case measure => simp [intOf]
      · rw [if_neg e] at hs
        have HS : Hid (FirstFrom I id m n q) := hs
        have hb : (c == id) = false := by simpa using e
        clear hs e
        go_wp2
        go_round
        case rel => exact ⟨m, q, by omega, rfl, rfl, HS⟩
        case measure => simp [intOf]
    · obtain rfl : k = 0 := by omega
      have e := firstFrom_unique H.out hr.out
      subst e
      go_wp2
      go_ret
      exact ⟨rfl, rfl⟩

/-! ### key -/
theorem key_empty (w : World) (ba : Nat) (ao : Option Addr) (c : Nat) (id : Int) (h1 : w.cell? ⟨ba, 1, none⟩ = some (.slice ao 0 c)) :
    Calls Try.prog 20 #[.pointer (some ⟨ba, 0, none⟩), .int .u8 id] w fun e w' => e = .returned (.pointer none) ∧ w' = w := by
  go_enter Try.func20, Try.ntmps20
  go_wp2
  refine wp_loop_rounds 1 ?_
  rw [rounds_succ]
  go_wp2
  go_ret
  exact ⟨rfl, rfl⟩
set_option maxHeartbeats 400000 in
theorem key_none (w : World) (ba g n cap : Nat) (hn0 : 0 < n) (hn : n ≤ 65536) (I : Nat → Int) (hI : Hid (∀ i, i < n → w.cell? ⟨g, i * 2, none⟩ = some (.int .u8 (I i)))) (id : Int) (h1 : w.cell? ⟨ba, 1, none⟩ = some (.slice (some ⟨g, 0, none⟩) n cap)) (hr : Hid (FirstFrom I id 0 n none)) :
    Calls Try.prog 20 #[.pointer (some ⟨ba, 0, none⟩), .int .u8 id] w fun e w' => e = .returned (.pointer none) ∧ w' = w := by
  go_enter Try.func20, Try.ntmps20
  go_wp2
  go_loop [5, 11] (fun _i s => ∃ k : Nat, k ≤ n ∧ s = .int .i64 k) (fun _ s => n - (intOf s).toNat)
  case atStart => exact ⟨0, by omega, rfl⟩
  case round =>
    obtain ⟨k, hk, rfl⟩ := hrel
    by_cases hlt : k < n
    · have hid := hI.out k hlt
      have hne := hr.out k (Nat.zero_le _) hlt
      obtain ⟨c, hcd⟩ : ∃ c, c = I k := ⟨_, rfl⟩
      rw [← hcd] at hid hne
      have hb : (c == id) = false := by simpa using hne
      clear hcd hne
      go_wp2
      go_round
      case rel => exact ⟨k + 1, by omega, by go_num⟩
      case measure => simp [intOf]; omega
    · go_wp2
      go_ret
      exact ⟨rfl, rfl⟩
set_option maxHeartbeats 400000 in
theorem key_some (w : World) (ba g n cap : Nat) (hn : n ≤ 65536) (I : Nat → Int) (hI : Hid (∀ i, i < n → w.cell? ⟨g, i * 2, none⟩ = some (.int .u8 (I i)))) (id : Int) (h1 : w.cell? ⟨ba, 1, none⟩ = some (.slice (some ⟨g, 0, none⟩) n cap)) (i : Nat) (hr : Hid (FirstFrom I id 0 n (some i))) :
    Calls Try.prog 20 #[.pointer (some ⟨ba, 0, none⟩), .int .u8 id] w fun e w' => e = .returned (.pointer (some ⟨g, i * 2, none⟩)) ∧ w' = w := by
  have hin : i < n := hr.out.2.1
  go_enter Try.func20, Try.ntmps20
  go_wp2
  go_loop [5, 11] (fun _i s => ∃ k : Nat, k ≤ i ∧ s = .int .i64 k) (fun _ s => i - (intOf s).toNat)
  case atStart => exact ⟨0, by omega, rfl⟩
  case round =>
    obtain ⟨k, hk, rfl⟩ := hrel
    have hid := hI.out k (by omega)
    by_cases hlt : k < i
    · have hne := hr.out.2.2.2 k (Nat.zero_le _) hlt
      obtain ⟨c, hcd⟩ : ∃ c, c = I k := ⟨_, rfl⟩
      rw [← hcd] at hid hne
      have hb : (c == id) = false := by simpa using hne
      clear hcd hne
      go_wp2
      go_round
      case rel => exact ⟨k + 1, by omega, by go_num⟩
      case measure => simp [intOf]; omega
    · obtain rfl : k = i := by omega
      rw [hr.out.2.2.1] at hid
      have hb : (id == id) = true := by simp
      go_wp2
      go_ret
      exact ⟨rfl, rfl⟩
/-- The pointer that key answers. -/
def keyV (g : Nat) : Option Nat → Value | some i => .pointer (some ⟨g, i * 2, none⟩) | none => .pointer none
theorem zzkey_any (w : World) (ba g n cap : Nat) (ao : Option Addr) (hao : Heads ao n g 0) (hn : n ≤ 65536) (I : Nat → Int) (A : Nat → Option Addr) (L C : Nat → Nat) (Z : Nat → List Int) (HK : KeysAt w g 0 n I A L C Z) (id : Int) (h1 : w.cell? ⟨ba, 1, none⟩ = some (.slice ao n cap)) (r : Option Nat) (hr : FirstFrom I id 0 n r) :
    Calls Try.prog 11 #[.pointer (some ⟨ba, 0, none⟩), .int .u8 id] w fun e w' => e = .returned (keyV g r) ∧ w' = w := by
  have K : Calls Try.prog 20 #[.pointer (some ⟨ba, 0, none⟩), .int .u8 id] w fun e w' => e = .returned (keyV g r) ∧ w' = w := by
    have hI : ∀ i, i < n → w.cell? ⟨g, i * 2, none⟩ = some (.int .u8 (I i)) := fun i hi => by have := HK.id i hi; rw [Nat.zero_add] at this; exact this
    cases r with
    | none =>
      by_cases h0 : n = 0
      · subst h0; exact key_empty w ba ao cap id h1
      · obtain rfl := hao (by omega)
        exact key_none w ba g n cap (by omega) hn I hI id h1 hr
    | some i =>
      obtain rfl := hao (by have := hr.2.1; omega)
      exact key_some w ba g n cap hn I hI id h1 i hr
  obtain ⟨v, hv⟩ : ∃ v, v = keyV g r := ⟨_, rfl⟩
  rw [← hv] at K ⊢
  clear hv h1
  go_enter Try.func11, Try.ntmps11
  go_wp2_with (go_at_call 20; refine K.mono ?_; rintro e w' ⟨rfl, rfl⟩)
  go_ret
  exact ⟨rfl, rfl⟩
end Go.Proofs.Qxb6605337a
