import Derived.Test.Qxb6605337aRows
import Derived.WalkKit
import Derived.ProofKit
import Derived.Below
import Derived.WalkSpells
import Derived.WalkSmall
import Derived.Deep.OwnRows
import Derived.Deep.QuietTactic
import Derived.BigQuiet
namespace Go.Proofs.Qxb6605337a
open Go.ChangeShapes Go.WideShapes Go.ChangeAt Go.RowKit
set_option linter.unusedVariables false

theorem Try.info5 : (Try.prog.info? 5).map (fun i => (i.zero, i.size, i.bytes)) = some (some (.int .u8 0), 1, 1) := by kernel_rfl
theorem Try.info41 : (Try.prog.info? 41).map (fun i => (i.zero, i.size, i.bytes)) = some (some (.agg #[.int .u8 0, .slice none 0 0]), 2, 32) := by kernel_rfl
theorem Try.info38 : (Try.prog.info? 38).map (fun i => (i.zero, i.size, i.bytes)) = some (some (.agg #[.int .u8 0, .slice none 0 0]), 2, 32) := by kernel_rfl

/-- The row that a make has laid. -/
theorem row_of_own {w : World} {base e size : Nat} {g n cap : Nat} {xs : List Value} (h : w.ownsRow base e size (.slice (some ⟨g, 0, none⟩) n cap) n xs) : ∃ f, w.rowIs g e (cap * size) f := by
  rcases h.2 with ⟨h1, _⟩ | ⟨g', cap', cur, hv, _, hg, _, _, hs, _⟩
  · cases h1
  · cases hv
    exact ⟨fun i => cur[i]?.getD undef, cur, hg, hs, fun i hi => by simp [Array.getElem?_eq_getElem (show i < cur.size by omega)]⟩
theorem below_made {w w1 : World} (hg : w.grownBy w1 none) : Below w.heap.size w w1 := (Below.refl _ _).grown hg (Nat.le_refl _) (by simp)
theorem rowIs_below {w w' : World} {b t n : Nat} {f : Nat → Value} {B : Nat} (h : w.rowIs b t n f) (hb : Below B w w') (hB : b < B) : w'.rowIs b t n f := h.of_block (hb.block b hB)

/-- A slice of bytes: its elements zs. -/
structure In (w : World) (a : Option Addr) (n cap : Nat) (zs : List Int) : Prop where
  len : zs.length = n
  bd : ∀ i, 0 ≤ zs.getD i 0 ∧ zs.getD i 0 ≤ 255
  isNil : a = none → n = 0 ∧ cap = 0
  cell : ∀ x, a = some x → ∀ i, i < n → w.cell? (x.add i) = some (.int .u8 (zs.getD i 0))
theorem In.below {w w' : World} {a : Option Addr} {n cap B : Nat} {zs : List Int} (h : In w a n cap zs) (hb : Below B w w') (hB : w.heap.size ≤ B) : In w' a n cap zs :=
  ⟨h.len, h.bd, h.isNil, fun x hx i hi => by
    have hc := h.cell x hx i hi
    rw [hb.cell (Nat.lt_of_lt_of_le (World.block_lt_of_cell? _ _ hc) hB)]; exact hc⟩
theorem In.drewN {w : World} {a : Option Addr} {n cap : Nat} {zs : List Int} (h : In w a n cap zs) (q : Nat) : In (w.drewN q) a n cap zs :=
  ⟨h.len, h.bd, h.isNil, fun x hx i hi => by rw [World.cell?_drewN]; exact h.cell x hx i hi⟩
theorem plain_addr {w : World} {x : Addr} {v : Value} (hc : w.cell? x = some v) : ∃ b off, x = ⟨b, off, none⟩ := by
  obtain ⟨b, off, spot⟩ := x
  have hspot : spot = none := by simpa using World.cell?_spot hc
  subst hspot
  exact ⟨b, off, rfl⟩
theorem In.plain {w : World} {a : Option Addr} {n cap : Nat} {zs : List Int} (h : In w a n cap zs) (hn : 0 < n) :
    ∃ b off, a = some ⟨b, off, none⟩ ∧ ∀ i, i < n → w.cell? ⟨b, off + i, none⟩ = some (.int .u8 (zs.getD i 0)) := by
  cases a with
  | none => have := (h.isNil rfl).1; omega
  | some x =>
    have h0 := h.cell x rfl 0 hn
    obtain ⟨b, off, spot⟩ := x
    have hspot : spot = none := by simpa [Addr.add] using World.cell?_spot h0
    subst hspot
    exact ⟨b, off, rfl, fun i hi => by rw [← add_plain]; exact h.cell _ rfl i hi⟩
theorem In.empty {w : World} {a : Option Addr} {cap : Nat} (hc : a = none → cap = 0) : In w a 0 cap [] := ⟨rfl, fun i => by simp, fun h => ⟨rfl, hc h⟩, fun x _ i hi => by omega⟩
theorem In.of_row {w : World} {g t n cap : Nat} {zs : List Int} {f : Nat → Value} (hr : w.rowIs g t n f) (hf : ∀ i, i < n → f i = .int .u8 (zs.getD i 0)) (hl : zs.length = n) (hb : ∀ i, 0 ≤ zs.getD i 0 ∧ zs.getD i 0 ≤ 255) : In w (some ⟨g, 0, none⟩) n cap zs :=
  ⟨hl, hb, fun h => by (cases h), fun x hx i hi => by cases hx; rw [add_plain, Nat.zero_add, hr.cell hi, hf i hi]⟩

/-! ### copyBytes -/
theorem copy_nil (w : World) : Calls Try.prog 19 #[.slice none 0 0] w fun e w' => e = .returned (.slice none 0 0) ∧ w' = w := by
  have q36 : ∀ (w : World) (a : Option Addr) (n c n' c' : Nat), (binOp .eql 36 (.slice a n c) (.slice none n' c')).run Try.prog w = .ok (.bool a.isNone) w := fun w a n c n' c' => Lib.run_eql_slice_nil w 36 5 a n c n' c' Try.underlying36
  go_enter Try.func19, Try.ntmps19
  go_wp2
  go_ret
  exact ⟨rfl, rfl⟩

set_option maxHeartbeats 400000 in
theorem copy_some (w : World) (x : Addr) (n cap : Nat) (zs : List Int) (hin : In w (some x) n cap zs) (hn : n ≤ 1048576) :
    Calls Try.prog 19 #[.slice (some x) n cap] w fun e w' => e = .returned (.slice (some ⟨w.heap.size, 0, none⟩) n n) ∧ In w' (some ⟨w.heap.size, 0, none⟩) n n zs ∧ Below w.heap.size w w' ∧ w.heap.size < w'.heap.size ∧ ∃ f, w'.rowIs w.heap.size 5 n f := by
  have q36 : ∀ (w : World) (a : Option Addr) (n c n' c' : Nat), (binOp .eql 36 (.slice a n c) (.slice none n' c')).run Try.prog w = .ok (.bool a.isNone) w := fun w a n c n' c' => Lib.run_eql_slice_nil w 36 5 a n c n' c' Try.underlying36
  obtain ⟨i0, hi, hz0, hz1, hz2⟩ := info_parts Try.info5
  go_enter Try.func19, Try.ntmps19
  go_wp2_with (at_make; refine wpList_make_full _ rfl (.tmp 8) (.tmp 8) 36 rfl w.heap.size 5 i0 (.int .u8 0) 1 Try.underlying36 hi hz0 hz1 .i64 .i64 _ _ n rfl rfl rfl rfl (by rw [hz2]; omega) (by unfold maxLen; omega) (Nat.le_refl _) ?_; intro w1 hown hgrow)
  obtain ⟨f0, hr0⟩ := row_of_own hown
  rw [Nat.mul_one] at hr0
  have hb0 := below_made hgrow
  clear hown hgrow
  go_loopw [4] (fun s wr => ∃ k : Nat, ∃ f, k ≤ n ∧ s = .int .i64 k ∧ wr.rowIs w.heap.size 5 n f ∧ Below w.heap.size w wr ∧ Hid (∀ i, i < k → f i = .int .u8 (zs.getD i 0))) (fun s _ => n - (intOf s).toNat)
  case atStart => exact ⟨0, f0, by omega, rfl, hr0, hb0, fun i hi => by omega⟩
  case round =>
    obtain ⟨k, f, hk, rfl, hr, hb, H⟩ := hrel
    by_cases hlt : k < n
    · obtain ⟨b, off, hxe, hc⟩ := hin.plain (by omega)
      obtain rfl := Option.some.inj hxe
      have hcw := hc k hlt
      have hcell : wr.cell? ⟨b, off + k, none⟩ = some (.int .u8 (zs.getD k 0)) := by rw [hb.cell (by exact World.block_lt_of_cell? _ _ hcw)]; exact hcw
      have hdst := hr.cell hlt
      have hfr := hr.frozen k
      obtain ⟨c, hcd⟩ : ∃ c, c = zs.getD k 0 := ⟨_, rfl⟩
      rw [← hcd] at hcell
      have HC : Hid (c = zs.getD k 0) := hcd
      clear hcd hc hcw hxe
      obtain ⟨vk, hvk⟩ : ∃ v, v = f k := ⟨_, rfl⟩
      rw [← hvk] at hdst
      clear hvk
      go_wp2
      go_roundw
      case rel =>
        refine ⟨k + 1, _, by omega, by go_num, hr.set k _, hb.setCell (Nat.le_refl _) _, ?_⟩
        intro i hi
        by_cases e : i = k
        · subst e; simp [HC.out]
        · simp [e]; exact H.out i (by omega)
      case measure => simp [intOf]; omega
    · obtain rfl : k = n := by omega
      have hlt2 := hr.lt
      go_wp2
      go_ret
      exact ⟨rfl, In.of_row hr H.out hin.len hin.bd, hb, hlt2, f, hr⟩
/-- copyBytes, whatever comes in. -/
theorem copy_any (w : World) (a : Option Addr) (n cap : Nat) (zs : List Int) (hin : In w a n cap zs) (hn : n ≤ 1048576) :
    Calls Try.prog 19 #[.slice a n cap] w fun e w' => ∃ a' c', e = .returned (.slice a' n c') ∧ In w' a' n c' zs ∧ Below w.heap.size w w' ∧ a'.isNone = a.isNone ∧ ∀ x, a' = some x → x.block = w.heap.size ∧ x.block < w'.heap.size ∧ ∃ f, w'.rowIs x.block 5 n f := by
  cases a with
  | none =>
    obtain ⟨rfl, rfl⟩ := hin.isNil rfl
    refine (copy_nil w).mono fun e w' h => ?_
    obtain ⟨rfl, rfl⟩ := h
    exact ⟨none, 0, rfl, hin, Below.refl _ _, rfl, fun x h => by cases h⟩
  | some x =>
    refine (copy_some w x n cap zs hin hn).mono fun e w' h => ?_
    obtain ⟨rfl, h1, h2, h3, h4⟩ := h
    exact ⟨_, _, rfl, h1, h2, rfl, fun x h => by cases h; exact ⟨rfl, h3, h4⟩⟩

/-! ### sameBytes -/
theorem same_none (w : World) (a1 a2 : Option Addr) (c1 c2 : Nat) : Calls Try.prog 18 #[.slice a1 0 c1, .slice a2 0 c2] w fun e w' => e = .returned (.bool true) ∧ ∃ q, w' = w.drewN q := by
  go_enter Try.func18, Try.ntmps18
  go_wp2
  refine wp_loop_rounds 1 ?_
  rw [rounds_succ]
  go_wp2
  go_ret
  exact ⟨rfl, 0, rfl⟩
set_option maxHeartbeats 400000 in
theorem same_some (w : World) (b1 o1 b2 o2 n c1 c2 : Nat) (zs : List Int) (hn : 0 < n) (hm : n ≤ 1048576) (h1 : Hid (∀ i, i < n → w.cell? ⟨b1, o1 + i, none⟩ = some (.int .u8 (zs.getD i 0)))) (h2 : Hid (∀ i, i < n → w.cell? ⟨b2, o2 + i, none⟩ = some (.int .u8 (zs.getD i 0)))) :
    Calls Try.prog 18 #[.slice (some ⟨b1, o1, none⟩) n c1, .slice (some ⟨b2, o2, none⟩) n c2] w fun e w' => e = .returned (.bool true) ∧ ∃ q, w' = w.drewN q := by
  go_enter Try.func18, Try.ntmps18
  go_wp2
  go_loopw [5] (fun s wr => ∃ k q : Nat, k ≤ n ∧ s = .int .i64 k ∧ wr = w.drewN q) (fun s _ => n - (intOf s).toNat)
  case atStart => exact ⟨0, 0, by omega, rfl, rfl⟩
  case round =>
    obtain ⟨k, q, hk, rfl, rfl⟩ := hrel
    by_cases hlt : k < n
    · have e1 := h1.out k hlt
      have e2 := h2.out k hlt
      obtain ⟨c, hcd⟩ : ∃ c, c = zs.getD k 0 := ⟨_, rfl⟩
      rw [← hcd] at e1 e2
      clear hcd
      have hli : (k : Int) < (n : Int) := by omega
      go_wp2
      go_quiet (fail)
      go_wp2
      go_roundw
      case rel => exact ⟨k + 1, _, by omega, by go_num, rfl⟩
      case measure => simp [intOf]; omega
    · go_wp2
      go_ret
      exact ⟨rfl, q, rfl⟩
/-- sameBytes at two slices of the same bytes. -/
theorem same_any (w : World) (a1 a2 : Option Addr) (n c1 c2 : Nat) (zs : List Int) (h1 : In w a1 n c1 zs) (h2 : In w a2 n c2 zs) (hm : n ≤ 1048576) :
    Calls Try.prog 18 #[.slice a1 n c1, .slice a2 n c2] w fun e w' => e = .returned (.bool true) ∧ ∃ q, w' = w.drewN q := by
  by_cases hn : n = 0
  · subst hn; exact same_none w a1 a2 c1 c2
  · obtain ⟨b1, o1, rfl, g1⟩ := h1.plain (by omega)
    obtain ⟨b2, o2, rfl, g2⟩ := h2.plain (by omega)
    exact same_some w b1 o1 b2 o2 n c1 c2 zs (by omega) hm g1 g2
end Go.Proofs.Qxb6605337a
