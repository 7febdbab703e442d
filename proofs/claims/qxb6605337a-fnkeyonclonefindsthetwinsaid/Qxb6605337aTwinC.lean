import Derived.Test.Qxb6605337aTwinB
namespace Go.Proofs.Qxb6605337a
open Go.ChangeShapes Go.WideShapes Go.ChangeAt Go.RowKit
set_option linter.unusedVariables false

set_option maxHeartbeats 400000 in
theorem cl_nil (w : World) (t s : Int) :
    Calls Try.prog 21 #[.agg #[.int .u8 t, .slice none 0 0, .int .u8 s]] w fun e w' => e = .returned (.agg #[.int .u8 t, .slice none 0 0, .int .u8 s]) ∧ Below w.heap.size w w' := by
  have K := ck_nil ((w.alloc (Obj.cells #[Value.int IntKind.u8 t, Value.slice none 0 0, Value.int IntKind.u8 s] 29)).alloc (Obj.cells #[Value.int IntKind.u8 0, Value.slice none 0 0, Value.int IntKind.u8 0] 29))
  obtain ⟨W0, hW0⟩ : ∃ W0, W0 = (w.alloc (Obj.cells #[Value.int IntKind.u8 t, Value.slice none 0 0, Value.int IntKind.u8 s] 29)).alloc (Obj.cells #[Value.int IntKind.u8 0, Value.slice none 0 0, Value.int IntKind.u8 0] 29) := ⟨_, rfl⟩
  obtain ⟨hb0, hs0, hp0, hq0⟩ := two_rows hW0
  go_enter Try.func21, Try.ntmps21
  go_wp2_with fail
  rw [← hW0] at K ⊢
  clear hW0
  refine K.mono ?_
  rintro e w' ⟨rfl, hw⟩
  replace hw := hw.symm
  subst hw
  have z0 : W0.cell? ⟨w.heap.size, 0, none⟩ = some (.int .u8 t) := hp0.cell (show 0 < 3 by omega)
  have z1 : W0.cell? ⟨w.heap.size, 1, none⟩ = some (.slice none 0 0) := hp0.cell (show 1 < 3 by omega)
  have z2 : W0.cell? ⟨w.heap.size, 2, none⟩ = some (.int .u8 s) := hp0.cell (show 2 < 3 by omega)
  have x1 := hp0.frozen 1
  have y0 : W0.cell? ⟨w.heap.size + 1, 0, none⟩ = some (.int .u8 0) := hq0.cell (show 0 < 3 by omega)
  have y1 : W0.cell? ⟨w.heap.size + 1, 1, none⟩ = some (.slice none 0 0) := hq0.cell (show 1 < 3 by omega)
  have y2 : W0.cell? ⟨w.heap.size + 1, 2, none⟩ = some (.int .u8 0) := hq0.cell (show 2 < 3 by omega)
  have v0 := hq0.frozen 0
  have v1 := hq0.frozen 1
  have v2 := hq0.frozen 2
  clear K hp0 hq0 hs0
  go_wp2
  refine wp_loop_rounds 1 ?_
  rw [rounds_succ]
  go_wp2
  refine bodyPost_ret (v := .agg #[.int .u8 t, .slice none 0 0, .int .u8 s]) (by simp [results, Try.results21, go_sem, y0, y1, y2]) rfl ⟨rfl, ?_⟩
  exact (((hb0.setCell (by simp) _).setCell (by simp) _).setCell (by simp) _).setCell (by simp) _

/-- A clone, whatever was cloned. -/
structure Cl (w w' : World) (ao : Option Addr) (n : Nat) (a1 : Option Addr) (g : Nat) (I : Nat → Int) (A A1 : Nat → Option Addr) (L C1 : Nat → Nat) (Z : Nat → List Int) : Prop where
  heads : Heads a1 n g 0
  nilEq : a1.isNone = ao.isNone
  keys : KeysAt w' g 0 n I A1 L C1 Z
  ok : 0 < n → w.heap.size ≤ g ∧ ClOk w' g n I A A1 L C1 Z

theorem cl_any (w : World) (t s : Int) (ao : Option Addr) (n cap g0 : Nat) (hnl : ao = none → n = 0 ∧ cap = 0) (hx : Heads ao n g0 0) (I : Nat → Int) (A : Nat → Option Addr) (L C : Nat → Nat) (Z : Nat → List Int) (HK : KeysAt w g0 0 n I A L C Z) (hn : n ≤ 65536) (hL : ∀ i, i < n → L i ≤ 1048576) :
    Calls Try.prog 21 #[.agg #[.int .u8 t, .slice ao n cap, .int .u8 s]] w fun e w' => ∃ a1 c1 g A1 C1, e = .returned (.agg #[.int .u8 t, .slice a1 n c1, .int .u8 s]) ∧ Below w.heap.size w w' ∧ Cl w w' ao n a1 g I A A1 L C1 Z := by
  cases ao with
  | none =>
    obtain ⟨rfl, rfl⟩ := hnl rfl
    refine (cl_nil w t s).mono fun e w' h => ?_
    obtain ⟨rfl, hb⟩ := h
    exact ⟨none, 0, 0, A, C, rfl, hb, ⟨fun h => by omega, rfl, KeysAt.none, fun h => by omega⟩⟩
  | some x =>
    refine (cl_some w t s x n cap g0 hx I A L C Z HK hn hL).mono fun e w' h => ?_
    obtain ⟨g, c', A', C', rfl, hb, hg, hO⟩ := h
    exact ⟨_, c', g, A', C', rfl, hb, ⟨fun _ => rfl, rfl, hO.keys, fun _ => ⟨hg, hO⟩⟩⟩

set_option maxHeartbeats 400000 in
theorem zzclone_any (w : World) (t s : Int) (ao : Option Addr) (n cap g0 : Nat) (hnl : ao = none → n = 0 ∧ cap = 0) (hx : Heads ao n g0 0) (I : Nat → Int) (A : Nat → Option Addr) (L C : Nat → Nat) (Z : Nat → List Int) (HK : KeysAt w g0 0 n I A L C Z) (hn : n ≤ 65536) (hL : ∀ i, i < n → L i ≤ 1048576) :
    Calls Try.prog 16 #[.agg #[.int .u8 t, .slice ao n cap, .int .u8 s]] w fun e w' => ∃ a1 c1 g A1 C1, e = .returned (.agg #[.int .u8 t, .slice a1 n c1, .int .u8 s]) ∧ Below w.heap.size w w' ∧ Cl w w' ao n a1 g I A A1 L C1 Z := by
  have HL : Hid (∀ i, i < n → L i ≤ 1048576) := hL
  clear hL
  obtain ⟨W0, hW0⟩ : ∃ W0, W0 = (w.alloc (Obj.cells #[Value.int IntKind.u8 t, Value.slice ao n cap, Value.int IntKind.u8 s] 29)).alloc (Obj.cells #[Value.int IntKind.u8 0, Value.slice none 0 0, Value.int IntKind.u8 0] 29) := ⟨_, rfl⟩
  obtain ⟨hb0, hs0, hp0, hq0⟩ := two_rows hW0
  have K := cl_any W0 t s ao n cap g0 hnl hx I A L C Z (HK.below hb0 (Nat.le_refl _)) hn HL.out
  have HNL : Hid (ao = none → n = 0 ∧ cap = 0) := hnl
  clear hnl
  go_enter Try.func16, Try.ntmps16
  go_wp2_with fail
  rw [← hW0]
  clear hW0
  refine K.mono ?_
  rintro e w1 ⟨a1, c1, g, A1, C1, rfl, hb1, hC⟩
  have hq1 := rowIs_below hq0 hb1 (by omega)
  have y0 : w1.cell? ⟨w.heap.size + 1, 0, none⟩ = some (.int .u8 0) := hq1.cell (show 0 < 3 by omega)
  have y1 : w1.cell? ⟨w.heap.size + 1, 1, none⟩ = some (.slice none 0 0) := hq1.cell (show 1 < 3 by omega)
  have y2 : w1.cell? ⟨w.heap.size + 1, 2, none⟩ = some (.int .u8 0) := hq1.cell (show 2 < 3 by omega)
  have v0 := hq1.frozen 0
  have v1 := hq1.frozen 1
  have v2 := hq1.frozen 2
  have hb : Below w.heap.size w w1 := hb0.trans (hb1.mono (by omega))
  clear K hp0 hq0 hq1
  go_wp2
  refine bodyPost_ret (v := .agg #[.int .u8 t, .slice a1 n c1, .int .u8 s]) (by simp [results, Try.results16, go_sem, y0, y1, y2]) rfl ⟨a1, c1, g, A1, C1, rfl, ?_, ?_⟩
  · exact ((hb.setCell (by simp) _).setCell (by simp) _).setCell (by simp) _
  · by_cases h0 : 0 < n
    · obtain ⟨hg, hO⟩ := hC.ok h0
      have hO' := ((hO.setOther (p := ⟨w.heap.size + 1, 0, none⟩) (by simp; omega) (.int .u8 t)).setOther (p := ⟨w.heap.size + 1, 1, none⟩) (by simp; omega) (.slice a1 n c1)).setOther (p := ⟨w.heap.size + 1, 2, none⟩) (by simp; omega) (.int .u8 s)
      exact ⟨hC.heads, hC.nilEq, hO'.keys, fun _ => ⟨by omega, hO'⟩⟩
    · obtain rfl : n = 0 := by omega
      exact ⟨hC.heads, hC.nilEq, KeysAt.none, fun h => by omega⟩
end Go.Proofs.Qxb6605337a
