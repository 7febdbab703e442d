import Derived.Test.Qxb6605337aClone
namespace Go.Proofs.Qxb6605337a
open Go.ChangeShapes Go.WideShapes Go.ChangeAt Go.RowKit
set_option linter.unusedVariables false

theorem build_nil (w : World) (t s : Int) :
    Calls Try.prog 10 #[.int .u8 t, .slice none 0 0, .int .u8 s] w fun e w' => e = .returned (.agg #[.int .u8 t, .slice none 0 0, .int .u8 s]) ∧ Below w.heap.size w w' := by
  have q22 : ∀ (w : World) (a : Option Addr) (n c n' c' : Nat), (binOp .neq 22 (.slice a n c) (.slice none n' c')).run Try.prog w = .ok (.bool (!a.isNone)) w := fun w a n c n' c' => run_neq_slice_nil_any w 22 41 a n c n' c' Try.underlying22
  go_enter Try.func10, Try.ntmps10
  go_wp2
  exact bodyPost_ret (v := .agg #[.int .u8 t, .slice none 0 0, .int .u8 s]) (by simp [results, Try.results10, go_sem]) rfl ⟨rfl, (Below.refl _ _).alloc (Nat.le_refl _) _⟩

set_option maxHeartbeats 1000000 in
theorem build_some (w : World) (t s : Int) (x : Addr) (n cap b off : Nat) (hao : Heads (some x) n b off) (hn : n ≤ 65536) (I : Nat → Int) (A : Nat → Option Addr) (L C : Nat → Nat) (Z : Nat → List Int) (HK : KeysAt w b off n I A L C Z) (hL : Hid (∀ i, i < n → L i ≤ 1048576)) :
    Calls Try.prog 10 #[.int .u8 t, .slice (some x) n cap, .int .u8 s] w fun e w' => e = .returned (.agg #[.int .u8 t, .slice (some ⟨w.heap.size + 1, 0, none⟩) n n, .int .u8 s]) ∧ Below w.heap.size w w' ∧ ∃ A' C', Copied w w' (w.heap.size + 1) n 38 I A A' L C' Z := by
  have q22 : ∀ (w : World) (a : Option Addr) (n c n' c' : Nat), (binOp .neq 22 (.slice a n c) (.slice none n' c')).run Try.prog w = .ok (.bool (!a.isNone)) w := fun w a n c n' c' => run_neq_slice_nil_any w 22 41 a n c n' c' Try.underlying22
  obtain ⟨i0, hi, hz0, hz1, hz2⟩ := info_parts Try.info38
  go_enter Try.func10, Try.ntmps10
  go_wp2_with (at_make; refine wpList_make_full _ rfl (.tmp 12) (.tmp 12) 27 rfl (w.heap.size + 1) 38 i0 (.agg #[.int .u8 0, .slice none 0 0]) 2 Try.underlying27 hi hz0 hz1 .i64 .i64 _ _ n rfl rfl rfl rfl (by rw [hz2]; omega) (by unfold maxLen; omega) (by simp) ?_; intro w1 hown hgrow)
  have eg : (w.alloc (Obj.cells #[Value.int IntKind.u8 0, Value.slice none 0 0, Value.int IntKind.u8 0] 29)).heap.size = w.heap.size + 1 := by simp
  rw [eg] at hown
  obtain ⟨f0, hr0⟩ := row_of_own hown
  have hbA : Below (w.heap.size + 1) (w.alloc (Obj.cells #[Value.int IntKind.u8 0, Value.slice none 0 0, Value.int IntKind.u8 0] 29)) w1 := (Below.refl _ _).grown hgrow (by simp) (by simp)
  have hb0 : Below w.heap.size w w1 := ((Below.refl w.heap.size w).alloc (Nat.le_refl _) _).trans (hbA.mono (by omega))
  have hres0 : ∃ f2, w1.rowIs w.heap.size 29 3 f2 := ⟨_, rowIs_below (World.rowIs_alloc w #[Value.int IntKind.u8 0, Value.slice none 0 0, Value.int IntKind.u8 0] 29 (fun i => #[Value.int IntKind.u8 0, Value.slice none 0 0, Value.int IntKind.u8 0].getD i undef) (fun i hi => by match i, hi with | 0, _ => rfl | 1, _ => rfl | 2, _ => rfl)) hbA (by omega)⟩
  clear hown hgrow eg hbA
  go_loopw [8] (fun s wr => ∃ k : Nat, ∃ f A' C', k ≤ n ∧ s = .int .i64 k ∧ wr.rowIs (w.heap.size + 1) 38 (n * 2) f ∧ Below w.heap.size w wr ∧ (∃ f2, wr.rowIs w.heap.size 29 3 f2) ∧ Done wr (w.heap.size + 1) k f I A A' L C' Z) (fun s _ => n - (intOf s).toNat)
  case atStart => exact ⟨0, f0, A, C, by omega, rfl, hr0, hb0, hres0, fun i hi => by omega⟩
  case round =>
    obtain ⟨k, f, A', C', hk, rfl, hr, hb, ⟨f2, hres⟩, H⟩ := hrel
    by_cases hlt : k < n
    · obtain rfl := Option.some.inj (hao (by omega))
      have hcw := HK.id k hlt
      have hcs := HK.sec k hlt
      have hbw := World.block_lt_of_cell? _ _ hcw
      have hid : wr.cell? ⟨b, off + k * 2, none⟩ = some (.int .u8 (I k)) := by rw [hb.cell (by exact hbw)]; exact hcw
      have hd0 := hr.cell (show k * 2 < n * 2 by omega)
      have hf0 := hr.frozen (k * 2)
      obtain ⟨v0, hv0⟩ : ∃ v, v = f (k * 2) := ⟨_, rfl⟩
      rw [← hv0] at hd0
      clear hv0 hcw
      obtain ⟨id, hidd⟩ : ∃ c, c = I k := ⟨_, rfl⟩
      rw [← hidd] at hid
      have HI : Hid (id = I k) := hidd
      clear hidd
      have hsec : wr.cell? ⟨b, off + k * 2 + 1, none⟩ = some (.slice (A k) (L k) (C k)) := by rw [hb.cell (by exact hbw)]; exact hcs
      have hin := HK.inn k hlt
      have hl := hL.out k hlt
      have hsz := hr.lt
      obtain ⟨a, had⟩ : ∃ c, c = A k := ⟨_, rfl⟩
      obtain ⟨l, hld⟩ : ∃ c, c = L k := ⟨_, rfl⟩
      obtain ⟨c, hcd⟩ : ∃ c, c = C k := ⟨_, rfl⟩
      rw [← had, ← hld, ← hcd] at hsec hin
      rw [← hld] at hl
      have HA : Hid (a = A k) := had
      have HLk : Hid (l = L k) := hld
      clear had hld hcd hcs hr0 hb0 hres0
      have hb1 : Below w.heap.size w (wr.setCell ⟨w.heap.size + 1, k * 2, none⟩ (.int .u8 id)) := hb.setCell (by simp) _
      have hsz1 : (wr.setCell ⟨w.heap.size + 1, k * 2, none⟩ (.int .u8 id)).heap.size = wr.heap.size := by simp [World.setCell]
      have HSZ : Hid ((wr.setCell ⟨w.heap.size + 1, k * 2, none⟩ (.int .u8 id)).heap.size = wr.heap.size) := hsz1
      clear hsz1
      have K := copy_any (wr.setCell ⟨w.heap.size + 1, k * 2, none⟩ (.int .u8 id)) a l c (Z k) (hin.below hb1 (Nat.le_refl _)) hl
      go_wp2_with (go_at_call 19; refine K.mono ?_; rintro e w3 ⟨a', c', rfl, g1, g2, g3, g4⟩; have hr3 := rowIs_below (hr.set (k * 2) (.int .u8 id)) g2 (by rw [HSZ.out]; exact hsz); have hd3 := hr3.cell (show k * 2 + 1 < n * 2 by omega); have hf3 := hr3.frozen (k * 2 + 1); clear K)
      go_roundw
      case rel =>
        have e := HLk.out
        subst e
        refine ⟨k + 1, _, (fun i => if i = k then a' else A' i), (fun i => if i = k then c' else C' i), by omega, by go_num, hr3.set (k * 2 + 1) (.slice a' (L k) c'), (hb1.trans (g2.mono (by have := hb1.size; exact this))).setCell (by simp) _, ⟨f2, ?_⟩, ?_⟩
        · exact (rowIs_below (hres.setOther (a := ⟨w.heap.size + 1, k * 2, none⟩) (by simp) _) g2 (by rw [HSZ.out]; exact hres.lt)).setOther (by simp) _
        · exact H.next hsz HI.out g2 g1 (by rw [g3, HA.out]) g4
      case measure => simp [intOf]; omega
    · obtain rfl : k = n := by omega
      have hz0 := hres.cell (show 0 < 3 by omega)
      have hz1 := hres.cell (show 1 < 3 by omega)
      have hz2 := hres.cell (show 2 < 3 by omega)
      have hy0 := hres.frozen 0
      have hy1 := hres.frozen 1
      have hy2 := hres.frozen 2
      have hC : Copied w wr (w.heap.size + 1) k 38 I A A' L C' Z := ⟨H.keys hr HK.bd, fun i hi => (H i hi).2.2.2.1, fun i hi => (H i hi).2.2.2.2, f, hr⟩
      go_wp2
      refine bodyPost_ret (v := .agg #[.int .u8 t, .slice (some ⟨w.heap.size + 1, 0, none⟩) k k, .int .u8 s]) (by simp [results, Try.results10, go_sem, hz0, hz1, hz2]) rfl ⟨rfl, ?_, A', C', ?_⟩
      · exact ((hb.setCell (by simp) _).setCell (by simp) _).setCell (by simp) _
      · exact ((hC.setOther (by simp) _).setOther (by simp) _).setOther (by simp) _
end Go.Proofs.Qxb6605337a
