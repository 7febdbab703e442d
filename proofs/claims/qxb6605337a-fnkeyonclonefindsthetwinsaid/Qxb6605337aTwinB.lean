import Derived.Test.Qxb6605337aTwin
import Derived.Test.Qxb6605337aSame
import Derived.Deep.RegionHeld3
import Derived.Deep.RegionWith
namespace Go.Proofs.Qxb6605337a
open Go.ChangeShapes Go.WideShapes Go.ChangeAt Go.RowKit
set_option linter.unusedVariables false

/-- The clone's row at block g: of its n keys the first k have their own secrets by now. -/
def DoneC (wr : World) (g n k : Nat) (f : Nat → Value) (I : Nat → Int) (A A' : Nat → Option Addr) (L C C' : Nat → Nat) (Z : Nat → List Int) : Prop :=
  ∀ i, i < n → f (i * 2) = .int .u8 (I i) ∧
    (k ≤ i → f (i * 2 + 1) = .slice (A i) (L i) (C i)) ∧
    (i < k → f (i * 2 + 1) = .slice (A' i) (L i) (C' i) ∧ In wr (A' i) (L i) (C' i) (Z i) ∧ (A' i).isNone = (A i).isNone ∧ ∀ y, A' i = some y → g < y.block ∧ y.block < wr.heap.size ∧ ∃ h m, wr.rowIs y.block 5 m h ∧ L i ≤ m)
theorem DoneC.next {wr w3 : World} {g n k : Nat} {f : Nat → Value} {I : Nat → Int} {A A' : Nat → Option Addr} {L C C' : Nat → Nat} {Z : Nat → List Int} {a' : Option Addr} {c' : Nat}
    (h : DoneC wr g n k f I A A' L C C' Z) (hg : g < wr.heap.size) (hb3 : Below wr.heap.size wr w3)
    (hin : In w3 a' (L k) c' (Z k)) (hnil : a'.isNone = (A k).isNone) (hblk : ∀ x, a' = some x → wr.heap.size ≤ x.block ∧ x.block < w3.heap.size ∧ ∃ f m, w3.rowIs x.block 5 m f ∧ L k ≤ m) :
    DoneC (w3.setCell ⟨g, k * 2 + 1, none⟩ (.slice a' (L k) c')) g n (k + 1) (fun j => if j = k * 2 + 1 then .slice a' (L k) c' else f j) I A (fun i => if i = k then a' else A' i) L C (fun i => if i = k then c' else C' i) Z := by
  have hs3 := hb3.size
  have hs4 : (w3.setCell ⟨g, k * 2 + 1, none⟩ (.slice a' (L k) c')).heap.size = w3.heap.size := by simp [World.setCell]
  intro i hi
  obtain ⟨h1, h2, h3⟩ := h i hi
  refine ⟨?_, fun hk => ?_, fun hk => ?_⟩
  · show (if i * 2 = k * 2 + 1 then _ else _) = _
    rw [if_neg (by omega)]; exact h1
  · show (if i * 2 + 1 = k * 2 + 1 then _ else _) = _
    rw [if_neg (by omega)]; exact h2 (by omega)
  · by_cases e : i = k
    · subst e
      refine ⟨by simp, ?_, by simpa using hnil, ?_⟩
      · simp only [if_true]
        exact hin.setOther (fun x hx => by have := (hblk x hx).1; simp; omega) _
      · intro y hy
        simp only [if_true] at hy
        obtain ⟨g1, g2, f5, m, g3, g4⟩ := hblk y hy
        exact ⟨by omega, by rw [hs4]; exact g2, f5, m, g3.setOther (by simp; omega) _, g4⟩
    · obtain ⟨k1, k2, k3, k4⟩ := h3 (by omega)
      refine ⟨?_, ?_, ?_, ?_⟩
      · simp only [e, if_false]; rw [if_neg (by omega)]; exact k1
      · simp only [e, if_false]
        exact (k2.below hb3 (Nat.le_refl _)).setOther (fun x hx => by have := (k4 x hx).1; simp; omega) _
      · simp only [e, if_false]; exact k3
      · intro y hy
        simp only [e, if_false] at hy
        obtain ⟨g1, g2, f5, m, g3, g4⟩ := k4 y hy
        exact ⟨g1, by rw [hs4]; omega, f5, m, (rowIs_below g3 hb3 g2).setOther (by simp; omega) _, g4⟩

/-- A clone's keys at block g. -/
structure ClOk (w : World) (g n : Nat) (I : Nat → Int) (A A' : Nat → Option Addr) (L C' : Nat → Nat) (Z : Nat → List Int) : Prop where
  keys : KeysAt w g 0 n I A' L C' Z
  isNil : ∀ i, i < n → (A' i).isNone = (A i).isNone
  own : ∀ i, i < n → ∀ y, A' i = some y → g < y.block ∧ y.block < w.heap.size ∧ ∃ h m, w.rowIs y.block 5 m h ∧ L i ≤ m
  row : ∃ m f, w.rowIs g 38 m f
theorem ClOk.lt {w : World} {g n : Nat} {I : Nat → Int} {A A' : Nat → Option Addr} {L C' : Nat → Nat} {Z : Nat → List Int} (h : ClOk w g n I A A' L C' Z) : g < w.heap.size := by obtain ⟨_, _, hf⟩ := h.row; exact hf.lt
theorem ClOk.setOther {w : World} {g n : Nat} {I : Nat → Int} {A A' : Nat → Option Addr} {L C' : Nat → Nat} {Z : Nat → List Int} (h : ClOk w g n I A A' L C' Z) {p : Addr} (hp : p.block < g) (v : Value) : ClOk (w.setCell p v) g n I A A' L C' Z := by
  have hs : (w.setCell p v).heap.size = w.heap.size := by simp [World.setCell]
  obtain ⟨m0, f0, hf0⟩ := h.row
  refine ⟨⟨fun i hi => ?_, fun i hi => ?_, fun i hi => ?_, h.keys.bd⟩, h.isNil, fun i hi y hy => ?_, m0, f0, hf0.setOther (by omega) v⟩
  · rw [cell_setOther (by simp; omega)]; exact h.keys.id i hi
  · rw [cell_setOther (by simp; omega)]; exact h.keys.sec i hi
  · exact (h.keys.inn i hi).setOther (fun x hx => by have := (h.own i hi x hx).1; omega) v
  · obtain ⟨h1, h2, f5, m, h3, h4⟩ := h.own i hi y hy
    exact ⟨h1, by rw [hs]; exact h2, f5, m, h3.setOther (by omega) v, h4⟩
theorem ClOk.below {w w2 : World} {g n B : Nat} {I : Nat → Int} {A A' : Nat → Option Addr} {L C' : Nat → Nat} {Z : Nat → List Int} (h : ClOk w g n I A A' L C' Z) (hb : Below B w w2) (hB : w.heap.size ≤ B) : ClOk w2 g n I A A' L C' Z := by
  have hs := hb.size
  have hl := h.lt
  obtain ⟨m0, f0, hf0⟩ := h.row
  refine ⟨h.keys.below hb hB, h.isNil, fun i hi y hy => ?_, m0, f0, rowIs_below hf0 hb (by omega)⟩
  obtain ⟨h1, h2, f5, m, h3, h4⟩ := h.own i hi y hy
  exact ⟨h1, by omega, f5, m, rowIs_below h3 hb (by omega), h4⟩
/-- Three cells by their index. -/
def three (a b c : Value) : Nat → Value | 0 => a | 1 => b | _ => c
theorem two_rows {w W : World} {v0 v1 v2 u0 u1 u2 : Value} (h : W = (w.alloc (Obj.cells #[v0, v1, v2] 29)).alloc (Obj.cells #[u0, u1, u2] 29)) :
    Below w.heap.size w W ∧ W.heap.size = w.heap.size + 2 ∧ W.rowIs w.heap.size 29 3 (three v0 v1 v2) ∧ W.rowIs (w.heap.size + 1) 29 3 (three u0 u1 u2) := by
  subst h
  have e : (w.alloc (Obj.cells #[v0, v1, v2] 29)).heap.size = w.heap.size + 1 := by simp
  refine ⟨((Below.refl _ _).alloc (Nat.le_refl _) _).alloc (by simp) _, by simp, ?_, ?_⟩
  · exact (World.rowIs_alloc w #[v0, v1, v2] 29 (three v0 v1 v2) (fun i hi => by match i, hi with | 0, _ => rfl | 1, _ => rfl | 2, _ => rfl)).alloc _
  · have := World.rowIs_alloc (w.alloc (Obj.cells #[v0, v1, v2] 29)) #[u0, u1, u2] 29 (three u0 u1 u2) (fun i hi => by match i, hi with | 0, _ => rfl | 1, _ => rfl | 2, _ => rfl)
    rw [e] at this; exact this

set_option maxHeartbeats 1000000 in
theorem cl_some (w : World) (t s : Int) (x : Addr) (n cap g0 : Nat) (hx : Heads (some x) n g0 0) (I : Nat → Int) (A : Nat → Option Addr) (L C : Nat → Nat) (Z : Nat → List Int) (HK : KeysAt w g0 0 n I A L C Z) (hn : n ≤ 65536) (hL : Hid (∀ i, i < n → L i ≤ 1048576)) :
    Calls Try.prog 21 #[.agg #[.int .u8 t, .slice (some x) n cap, .int .u8 s]] w fun e w' => ∃ g c' A' C', e = .returned (.agg #[.int .u8 t, .slice (some ⟨g, 0, none⟩) n c', .int .u8 s]) ∧ Below w.heap.size w w' ∧ w.heap.size ≤ g ∧ ClOk w' g n I A A' L C' Z := by
  go_enter Try.func21, Try.ntmps21
  go_wp2_with fail
  obtain ⟨W0, hW0⟩ : ∃ W0, W0 = (w.alloc (Obj.cells #[Value.int IntKind.u8 t, Value.slice (some x) n cap, Value.int IntKind.u8 s] 29)).alloc (Obj.cells #[Value.int IntKind.u8 0, Value.slice none 0 0, Value.int IntKind.u8 0] 29) := ⟨_, rfl⟩
  obtain ⟨hb0, hs0, hp0, hq0⟩ := two_rows hW0
  rw [← hW0]
  clear hW0
  refine (ck_some W0 x n cap g0 hx I A L C Z (HK.below hb0 (Nat.le_refl _)) hn).mono ?_
  rintro e w1 ⟨g, c', f, rfl, hg, hb1, hr, hnc, hf⟩
  have hp1 := rowIs_below hp0 hb1 (by omega)
  have hq1 := rowIs_below hq0 hb1 (by omega)
  have hlt1 := hr.lt
  have hbw : Below w.heap.size w w1 := hb0.trans (hb1.mono (by omega))
  have hgne : w.heap.size < g := by omega
  have hgne2 : w.heap.size + 1 < g := by omega
  have d1 : w1.cell? ⟨w.heap.size, 1, none⟩ = some (.slice (some x) n cap) := hp1.cell (by omega)
  have f1 := hp1.frozen 1
  have HF : DoneC (w1.setCell ⟨w.heap.size, 1, none⟩ (.slice (some ⟨g, 0, none⟩) n c')) g n 0 f I A A L C C Z := fun i hi => ⟨(hf i hi).1, fun _ => (hf i hi).2, fun h => by omega⟩
  have hbS : Below w.heap.size w (w1.setCell ⟨w.heap.size, 1, none⟩ (.slice (some ⟨g, 0, none⟩) n c')) := hbw.setCell (Nat.le_refl _) _
  have hrS : (w1.setCell ⟨w.heap.size, 1, none⟩ (.slice (some ⟨g, 0, none⟩) n c')).rowIs g 38 (c' * 2) f := hr.setOther (by simp; omega) _
  have hpS := (hp1.set 1 (.slice (some ⟨g, 0, none⟩) n c')).congr (g := three (.int .u8 t) (.slice (some ⟨g, 0, none⟩) n c') (.int .u8 s)) (fun i hi => by match i, hi with | 0, _ => rfl | 1, _ => rfl | 2, _ => rfl)
  have hqS : (w1.setCell ⟨w.heap.size, 1, none⟩ (.slice (some ⟨g, 0, none⟩) n c')).rowIs (w.heap.size + 1) 29 3 (three (.int .u8 0) (.slice none 0 0) (.int .u8 0)) := hq1.setOther (by simp) _
  clear hb0 hs0 hp0 hq0 hg hb1 hr hf hp1 hq1 hlt1 hbw
  go_wp2
  go_loopw [3, 11] (fun _i sk wr => ∃ k : Nat, ∃ f A' C', k ≤ n ∧ sk = .int .i64 k ∧ wr.rowIs g 38 (c' * 2) f ∧ Below w.heap.size w wr ∧ wr.rowIs w.heap.size 29 3 (three (.int .u8 t) (.slice (some ⟨g, 0, none⟩) n c') (.int .u8 s)) ∧ wr.rowIs (w.heap.size + 1) 29 3 (three (.int .u8 0) (.slice none 0 0) (.int .u8 0)) ∧ DoneC wr g n k f I A A' L C C' Z) (fun _ sk _ => n - (intOf sk).toNat)
  case atStart => exact ⟨0, f, A, C, by omega, rfl, hrS, hbS, hpS, hqS, HF⟩
  case round =>
    obtain ⟨k, f, A', C', hk, rfl, hr, hb, hp, hq, H⟩ := hrel
    by_cases hlt : k < n
    · have p1 : wr.cell? ⟨w.heap.size, 1, none⟩ = some (.slice (some ⟨g, 0, none⟩) n c') := hp.cell (show 1 < 3 by omega)
      have hsec := hr.cell (show k * 2 + 1 < c' * 2 by omega)
      rw [(H k hlt).2.1 (Nat.le_refl _)] at hsec
      have hfr := hr.frozen (k * 2 + 1)
      have hin := (HK.inn k hlt).below hb (Nat.le_refl _)
      have hl := hL.out k hlt
      have hgs := hr.lt
      have hli : (k : Int) < (n : Int) := by omega
      have hl0 : (0 : Int) ≤ (k : Int) := by omega
      obtain ⟨a, had⟩ : ∃ c, c = A k := ⟨_, rfl⟩
      obtain ⟨l, hld⟩ : ∃ c, c = L k := ⟨_, rfl⟩
      obtain ⟨c, hcd⟩ : ∃ c, c = C k := ⟨_, rfl⟩
      rw [← had, ← hld, ← hcd] at hsec hin
      rw [← hld] at hl
      have HA : Hid (a = A k) := had
      have HLk : Hid (l = L k) := hld
      clear had hld hcd
      have KC := fun (wx : World) (hx : ∀ a, wx.cell? a = wr.cell? a) => cb_any wx a l c (Z k) (hin.congr hx) hl
      go_wp2
      go_region_with (go_at_call 23; refine (KC _ ?_).mono ?_; (intro a; simp); rintro e w3 ⟨a', c3, rfl, g1, g2, g3, g4⟩; have hr3 := rowIs_below (w := wr.drew) hr g2 hgs; have hp3 := rowIs_below (w := wr.drew) hp g2 hp.lt; have p13 : w3.cell? ⟨w.heap.size, 1, none⟩ = some (.slice (some ⟨g, 0, none⟩) n c') := hp3.cell (show 1 < 3 by omega); have d3 := hr3.cell (show k * 2 + 1 < c' * 2 by omega); have fr3 := hr3.frozen (k * 2 + 1))
      all_goals
        go_wp2
        go_roundw
        case rel =>
          have e := HLk.out
          subst e
          have hb3 : Below wr.heap.size wr w3 := (Below.refl wr.heap.size wr).drew.trans g2
          refine ⟨k + 1, _, (fun i => if i = k then a' else A' i), (fun i => if i = k then c3 else C' i), by omega, by go_num, hr3.set (k * 2 + 1) (.slice a' (L k) c3), (hb.trans (hb3.mono hb.size)).setCell (by simp; omega) _, hp3.setOther (by simp; omega) _, (rowIs_below (w := wr.drew) hq g2 hq.lt).setOther (by simp; omega) _, ?_⟩
          exact H.next hgs hb3 g1 (by rw [g3, HA.out]) g4
        case measure => simp [intOf]; omega
    · obtain rfl : k = n := by omega
      have hKs : KeysAt wr g 0 k I A' L C' Z := ⟨fun i hi => by rw [Nat.zero_add, hr.cell (by omega), (H i hi).1], fun i hi => by rw [Nat.zero_add, hr.cell (by omega), ((H i hi).2.2 hi).1], fun i hi => ((H i hi).2.2 hi).2.1, HK.bd⟩
      have z0 : wr.cell? ⟨w.heap.size, 0, none⟩ = some (.int .u8 t) := hp.cell (show 0 < 3 by omega)
      have z1 : wr.cell? ⟨w.heap.size, 1, none⟩ = some (.slice (some ⟨g, 0, none⟩) k c') := hp.cell (show 1 < 3 by omega)
      have z2 : wr.cell? ⟨w.heap.size, 2, none⟩ = some (.int .u8 s) := hp.cell (show 2 < 3 by omega)
      have y0 : wr.cell? ⟨w.heap.size + 1, 0, none⟩ = some (.int .u8 0) := hq.cell (show 0 < 3 by omega)
      have y1 : wr.cell? ⟨w.heap.size + 1, 1, none⟩ = some (.slice none 0 0) := hq.cell (show 1 < 3 by omega)
      have y2 : wr.cell? ⟨w.heap.size + 1, 2, none⟩ = some (.int .u8 0) := hq.cell (show 2 < 3 by omega)
      have v0 := hq.frozen 0
      have v1 := hq.frozen 1
      have v2 := hq.frozen 2
      have hgl := hr.lt
      have hO : ClOk wr g k I A A' L C' Z := ⟨hKs, fun i hi => ((H i hi).2.2 hi).2.2.1, fun i hi => ((H i hi).2.2 hi).2.2.2, _, f, hr⟩
      go_wp2
      refine bodyPost_ret (v := .agg #[.int .u8 t, .slice (some ⟨g, 0, none⟩) k c', .int .u8 s]) (by simp [results, Try.results21, go_sem, y0, y1, y2]) rfl ⟨g, c', A', C', rfl, ?_, by omega, ?_⟩
      · exact ((hb.setCell (by simp) _).setCell (by simp) _).setCell (by simp) _
      · exact ((hO.setOther (by simp; omega) _).setOther (by simp; omega) _).setOther (by simp; omega) _
end Go.Proofs.Qxb6605337a
