import Derived.Test.Qxb6605337aKeys
namespace Go.Proofs.Qxb6605337a
open Go.ChangeShapes Go.WideShapes Go.ChangeAt Go.RowKit
set_option linter.unusedVariables false

theorem In.setOther {w : World} {a : Option Addr} {n cap : Nat} {zs : List Int} (h : In w a n cap zs) {p : Addr} (hp : ∀ x, a = some x → x.block ≠ p.block) (v : Value) : In (w.setCell p v) a n cap zs :=
  ⟨h.len, h.bd, h.isNil, fun x hx i hi => by
    have hc := h.cell x hx i hi
    have hxp := hp x hx
    rw [World.cell?_of_block (w := w)]
    · exact hc
    · have hne : (x.add i).block ≠ p.block := by obtain ⟨b, o, s⟩ := x; unfold Addr.add; split <;> simpa using hxp
      simp only [World.setCell, Array.getElem?_modify]
      rw [if_neg (by omega)]⟩

/-- k keys have been copied into the row at block g. -/
def Done (wr : World) (g k : Nat) (f : Nat → Value) (I : Nat → Int) (A A' : Nat → Option Addr) (L C' : Nat → Nat) (Z : Nat → List Int) : Prop :=
  ∀ i, i < k → f (i * 2) = .int .u8 (I i) ∧ f (i * 2 + 1) = .slice (A' i) (L i) (C' i) ∧ In wr (A' i) (L i) (C' i) (Z i) ∧ (A' i).isNone = (A i).isNone ∧ ∀ y, A' i = some y → g < y.block ∧ y.block < wr.heap.size ∧ ∃ h, wr.rowIs y.block 5 (L i) h
/-- What one round does. -/
theorem Done.next {wr w3 : World} {g k : Nat} {f : Nat → Value} {I : Nat → Int} {A A' : Nat → Option Addr} {L C' : Nat → Nat} {Z : Nat → List Int} {a' : Option Addr} {c' : Nat} {id : Int}
    (h : Done wr g k f I A A' L C' Z) (hg : g < wr.heap.size) (hid : id = I k) (hb3 : Below (wr.setCell ⟨g, k * 2, none⟩ (.int .u8 id)).heap.size (wr.setCell ⟨g, k * 2, none⟩ (.int .u8 id)) w3)
    (hin : In w3 a' (L k) c' (Z k)) (hnil : a'.isNone = (A k).isNone) (hblk : ∀ x, a' = some x → x.block = (wr.setCell ⟨g, k * 2, none⟩ (.int .u8 id)).heap.size ∧ x.block < w3.heap.size ∧ ∃ f, w3.rowIs x.block 5 (L k) f) :
    Done (w3.setCell ⟨g, k * 2 + 1, none⟩ (.slice a' (L k) c')) g (k + 1) (fun j => if j = k * 2 + 1 then .slice a' (L k) c' else if j = k * 2 then .int .u8 id else f j) I A (fun i => if i = k then a' else A' i) L (fun i => if i = k then c' else C' i) Z := by
  have hsz : (wr.setCell ⟨g, k * 2, none⟩ (.int .u8 id)).heap.size = wr.heap.size := by simp [World.setCell]
  rw [hsz] at hblk hb3
  have hs3 : wr.heap.size ≤ w3.heap.size := by have := hb3.size; rw [hsz] at this; exact this
  have hs4 : (w3.setCell ⟨g, k * 2 + 1, none⟩ (.slice a' (L k) c')).heap.size = w3.heap.size := by simp [World.setCell]
  intro i hi
  by_cases e : i = k
  · subst e
    refine ⟨?_, by simp, ?_, by simpa using hnil, ?_⟩
    · show (if i * 2 = i * 2 + 1 then _ else if i * 2 = i * 2 then _ else _) = _
      rw [if_neg (by omega), if_pos rfl, hid]
    · simp only [if_true]
      exact hin.setOther (fun x hx => by have := (hblk x hx).1; simp; omega) _
    · intro y hy
      simp only [if_true] at hy
      obtain ⟨h1, h2, f5, h3⟩ := hblk y hy
      exact ⟨by omega, by rw [hs4]; exact h2, f5, h3.setOther (by simp; omega) _⟩
  · obtain ⟨h1, h2, h3, h4, h5⟩ := h i (by omega)
    refine ⟨?_, ?_, ?_, ?_, ?_⟩
    · simp only []; rw [if_neg (by omega), if_neg (by omega)]; exact h1
    · simp only [e, if_false]; rw [if_neg (by omega), if_neg (by omega)]; exact h2
    · simp only [e, if_false]
      have g1 : In (wr.setCell ⟨g, k * 2, none⟩ (.int .u8 id)) (A' i) (L i) (C' i) (Z i) := h3.setOther (fun x hx => by have := (h5 x hx).1; simp; omega) _
      exact (g1.below hb3 (by rw [hsz]; exact Nat.le_refl _)).setOther (fun x hx => by have := (h5 x hx).1; simp; omega) _
    · simp only [e, if_false]; exact h4
    · intro y hy
      simp only [e, if_false] at hy
      obtain ⟨g1, g2, f5, g3⟩ := h5 y hy
      refine ⟨g1, by rw [hs4]; omega, f5, ?_⟩
      exact (rowIs_below (g3.setOther (a := ⟨g, k * 2, none⟩) (by simp; omega) _) hb3 g2).setOther (by simp; omega) _
theorem Done.keys {wr : World} {g n : Nat} {f : Nat → Value} {I : Nat → Int} {A A' : Nat → Option Addr} {L C' : Nat → Nat} {Z : Nat → List Int} {ty : TypeId} (h : Done wr g n f I A A' L C' Z) (hr : wr.rowIs g ty (n * 2) f) (hbd : ∀ i, i < n → 0 ≤ I i ∧ I i ≤ 255) : KeysAt wr g 0 n I A' L C' Z :=
  ⟨fun i hi => by rw [Nat.zero_add, hr.cell (by omega), (h i hi).1], fun i hi => by rw [Nat.zero_add, hr.cell (by omega), (h i hi).2.1], fun i hi => (h i hi).2.2.1, hbd⟩

/-- A copy of n keys at block g of w', made by a call that began in w. -/
structure Copied (w w' : World) (g n : Nat) (ty : TypeId) (I : Nat → Int) (A A' : Nat → Option Addr) (L C' : Nat → Nat) (Z : Nat → List Int) : Prop where
  keys : KeysAt w' g 0 n I A' L C' Z
  isNil : ∀ i, i < n → (A' i).isNone = (A i).isNone
  own : ∀ i, i < n → ∀ y, A' i = some y → g < y.block ∧ y.block < w'.heap.size ∧ ∃ h, w'.rowIs y.block 5 (L i) h
  row : ∃ f, w'.rowIs g ty (n * 2) f

theorem cell_setOther {w : World} {p x : Addr} (h : x.block ≠ p.block) (v : Value) : (w.setCell p v).cell? x = w.cell? x := by
  rw [World.cell?_of_block (w := w)]
  simp only [World.setCell, Array.getElem?_modify]
  rw [if_neg (by omega)]
/-- A store below the copy turns nothing of it. -/
theorem Copied.setOther {w w' : World} {g n : Nat} {ty : TypeId} {I : Nat → Int} {A A' : Nat → Option Addr} {L C' : Nat → Nat} {Z : Nat → List Int} (h : Copied w w' g n ty I A A' L C' Z) {p : Addr} (hp : p.block < g) (v : Value) : Copied w (w'.setCell p v) g n ty I A A' L C' Z := by
  have hs : (w'.setCell p v).heap.size = w'.heap.size := by simp [World.setCell]
  obtain ⟨f, hf⟩ := h.row
  refine ⟨⟨fun i hi => ?_, fun i hi => ?_, fun i hi => ?_, h.keys.bd⟩, h.isNil, fun i hi y hy => ?_, f, hf.setOther (by omega) v⟩
  · rw [cell_setOther (by simp; omega)]; exact h.keys.id i hi
  · rw [cell_setOther (by simp; omega)]; exact h.keys.sec i hi
  · exact (h.keys.inn i hi).setOther (fun x hx => by have := (h.own i hi x hx).1; omega) v
  · obtain ⟨h1, h2, f5, h3⟩ := h.own i hi y hy
    exact ⟨h1, by rw [hs]; exact h2, f5, h3.setOther (by omega) v⟩
/-- A copy stands behind calls that turn nothing that was there. -/
theorem Copied.below {w w' w2 : World} {g n B : Nat} {ty : TypeId} {I : Nat → Int} {A A' : Nat → Option Addr} {L C' : Nat → Nat} {Z : Nat → List Int} (h : Copied w w' g n ty I A A' L C' Z) (hb : Below B w' w2) (hB : w'.heap.size ≤ B) : Copied w w2 g n ty I A A' L C' Z := by
  obtain ⟨f, hf⟩ := h.row
  have hlt := hf.lt
  refine ⟨h.keys.below hb hB, h.isNil, fun i hi y hy => ?_, f, rowIs_below hf hb (by omega)⟩
  obtain ⟨h1, h2, f5, h3⟩ := h.own i hi y hy
  have hs := hb.size
  exact ⟨h1, by omega, f5, rowIs_below h3 hb (by omega)⟩

theorem clone_nil (w : World) : Calls Try.prog 9 #[.slice none 0 0] w fun e w' => e = .returned (.slice none 0 0) ∧ w' = w := by
  have q22 : ∀ (w : World) (a : Option Addr) (n c n' c' : Nat), (binOp .eql 22 (.slice a n c) (.slice none n' c')).run Try.prog w = .ok (.bool a.isNone) w := fun w a n c n' c' => Lib.run_eql_slice_nil w 22 41 a n c n' c' Try.underlying22
  go_enter Try.func9, Try.ntmps9
  go_wp2
  go_ret
  exact ⟨rfl, rfl⟩

set_option maxHeartbeats 1000000 in
theorem clone_some (w : World) (x : Addr) (n cap b off : Nat) (hao : Heads (some x) n b off) (hn : n ≤ 65536) (I : Nat → Int) (A : Nat → Option Addr) (L C : Nat → Nat) (Z : Nat → List Int) (HK : KeysAt w b off n I A L C Z) (hL : Hid (∀ i, i < n → L i ≤ 1048576)) :
    Calls Try.prog 9 #[.slice (some x) n cap] w fun e w' => e = .returned (.slice (some ⟨w.heap.size, 0, none⟩) n n) ∧ Below w.heap.size w w' ∧ ∃ A' C', Copied w w' w.heap.size n 41 I A A' L C' Z := by
  have q22 : ∀ (w : World) (a : Option Addr) (n c n' c' : Nat), (binOp .eql 22 (.slice a n c) (.slice none n' c')).run Try.prog w = .ok (.bool a.isNone) w := fun w a n c n' c' => Lib.run_eql_slice_nil w 22 41 a n c n' c' Try.underlying22
  obtain ⟨i0, hi, hz0, hz1, hz2⟩ := info_parts Try.info41
  go_enter Try.func9, Try.ntmps9
  go_wp2_with (at_make; refine wpList_make_full _ rfl (.tmp 8) (.tmp 8) 22 rfl w.heap.size 41 i0 (.agg #[.int .u8 0, .slice none 0 0]) 2 Try.underlying22 hi hz0 hz1 .i64 .i64 _ _ n rfl rfl rfl rfl (by rw [hz2]; omega) (by unfold maxLen; omega) (Nat.le_refl _) ?_; intro w1 hown hgrow)
  obtain ⟨f0, hr0⟩ := row_of_own hown
  have hb0 := below_made hgrow
  clear hown hgrow
  go_loopw [4] (fun s wr => ∃ k : Nat, ∃ f A' C', k ≤ n ∧ s = .int .i64 k ∧ wr.rowIs w.heap.size 41 (n * 2) f ∧ Below w.heap.size w wr ∧ Done wr w.heap.size k f I A A' L C' Z) (fun s _ => n - (intOf s).toNat)
  case atStart => exact ⟨0, f0, A, C, by omega, rfl, hr0, hb0, fun i hi => by omega⟩
  case round =>
    obtain ⟨k, f, A', C', hk, rfl, hr, hb, H⟩ := hrel
    by_cases hlt : k < n
    · obtain rfl := Option.some.inj (hao (by omega))
      have hcw := HK.id k hlt
      have hcs := HK.sec k hlt
      have hbw := World.block_lt_of_cell? _ _ hcw
      have hid : wr.cell? ⟨b, off + k * 2, none⟩ = some (.int .u8 (I k)) := by rw [hb.cell (by exact hbw)]; exact hcw
      have hd0 := hr.cell (show k * 2 < n * 2 by omega)
      have hf0 := hr.frozen (k * 2)
      obtain ⟨v0, hv0⟩ : ∃ v, v = f (k * 2) := ⟨_, rfl⟩
      rw [← hv0] at hd0
      clear hv0 hcw
      obtain ⟨id, hidd⟩ : ∃ c, c = I k := ⟨_, rfl⟩
      rw [← hidd] at hid
      have HI : Hid (id = I k) := hidd
      clear hidd
      have hsec : wr.cell? ⟨b, off + k * 2 + 1, none⟩ = some (.slice (A k) (L k) (C k)) := by rw [hb.cell (by exact hbw)]; exact hcs
      have hin := HK.inn k hlt
      have hl := hL.out k hlt
      have hsz := hr.lt
      obtain ⟨a, had⟩ : ∃ c, c = A k := ⟨_, rfl⟩
      obtain ⟨l, hld⟩ : ∃ c, c = L k := ⟨_, rfl⟩
      obtain ⟨c, hcd⟩ : ∃ c, c = C k := ⟨_, rfl⟩
      rw [← had, ← hld, ← hcd] at hsec hin
      rw [← hld] at hl
      have HA : Hid (a = A k) := had
      have HLk : Hid (l = L k) := hld
      clear had hld hcd hcs
      have hb1 : Below w.heap.size w (wr.setCell ⟨w.heap.size, k * 2, none⟩ (.int .u8 id)) := hb.setCell (Nat.le_refl _) _
      have K := copy_any (wr.setCell ⟨w.heap.size, k * 2, none⟩ (.int .u8 id)) a l c (Z k) (hin.below hb1 (Nat.le_refl _)) hl
      go_wp2_with (go_at_call 19; refine K.mono ?_; rintro e w3 ⟨a', c', rfl, g1, g2, g3, g4⟩; have hr3 := rowIs_below (hr.set (k * 2) (.int .u8 id)) g2 (by simpa [World.setCell] using hsz); have hd3 := hr3.cell (show k * 2 + 1 < n * 2 by omega); have hf3 := hr3.frozen (k * 2 + 1); clear K)
      go_roundw
      case rel =>
        have e := HLk.out
        subst e
        refine ⟨k + 1, _, (fun i => if i = k then a' else A' i), (fun i => if i = k then c' else C' i), by omega, by go_num, hr3.set (k * 2 + 1) (.slice a' (L k) c'), (hb1.trans (g2.mono (by have := hb1.size; exact this))).setCell (Nat.le_refl _) _, ?_⟩
        exact H.next hsz HI.out g2 g1 (by rw [g3, HA.out]) g4
      case measure => simp [intOf]; omega
    · obtain rfl : k = n := by omega
      go_wp2
      go_ret
      exact ⟨rfl, hb, A', C', H.keys hr HK.bd, fun i hi => (H i hi).2.2.2.1, fun i hi => (H i hi).2.2.2.2, f, hr⟩
end Go.Proofs.Qxb6605337a
