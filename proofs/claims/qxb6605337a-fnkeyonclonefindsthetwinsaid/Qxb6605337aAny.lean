import Derived.Test.Qxb6605337aBuild
import Derived.Test.Qxb6605337aFind
import Derived.Test.Qxb6605337aSame
namespace Go.Proofs.Qxb6605337a
open Go.ChangeShapes Go.WideShapes Go.ChangeAt Go.RowKit
set_option linter.unusedVariables false

/-- A copy of the keys at ao, in memory made since w: its address a1, its capacity c1, its row's block g1. -/
structure Cpy (w w' : World) (ao : Option Addr) (n : Nat) (a1 : Option Addr) (c1 g1 : Nat) (I : Nat → Int) (A A1 : Nat → Option Addr) (L C1 : Nat → Nat) (Z : Nat → List Int) : Prop where
  heads : Heads a1 n g1 0
  nilEq : a1.isNone = ao.isNone
  keys : KeysAt w' g1 0 n I A1 L C1 Z
  isNil : ∀ i, i < n → (A1 i).isNone = (A i).isNone
  own : ∀ i, i < n → ∀ y, A1 i = some y → w.heap.size ≤ y.block ∧ y.block < w'.heap.size ∧ ∃ h, w'.rowIs y.block 5 (L i) h
  row : 0 < n → w.heap.size ≤ g1 ∧ g1 < w'.heap.size ∧ ∃ ty f, w'.rowIs g1 ty (n * 2) f
theorem Cpy.below {w w' w2 : World} {ao a1 : Option Addr} {n c1 g1 B : Nat} {I : Nat → Int} {A A1 : Nat → Option Addr} {L C1 : Nat → Nat} {Z : Nat → List Int} (h : Cpy w w' ao n a1 c1 g1 I A A1 L C1 Z) (hb : Below B w' w2) (hB : w'.heap.size ≤ B) : Cpy w w2 ao n a1 c1 g1 I A A1 L C1 Z := by
  have hs := hb.size
  refine ⟨h.heads, h.nilEq, h.keys.below hb hB, h.isNil, fun i hi y hy => ?_, fun hn => ?_⟩
  · obtain ⟨h1, h2, f5, h3⟩ := h.own i hi y hy
    exact ⟨h1, by omega, f5, rowIs_below h3 hb (by omega)⟩
  · obtain ⟨h1, h2, ty, f, h3⟩ := h.row hn
    exact ⟨h1, by omega, ty, f, rowIs_below h3 hb (by omega)⟩
theorem KeysAt.none {w : World} {b off : Nat} {I : Nat → Int} {A : Nat → Option Addr} {L C : Nat → Nat} {Z : Nat → List Int} : KeysAt w b off 0 I A L C Z :=
  ⟨fun i hi => by omega, fun i hi => by omega, fun i hi => by omega, fun i hi => by omega⟩

theorem clone_any (w : World) (ao : Option Addr) (n cap b off : Nat) (hnl : ao = none → n = 0 ∧ cap = 0) (hao : Heads ao n b off) (hn : n ≤ 65536) (I : Nat → Int) (A : Nat → Option Addr) (L C : Nat → Nat) (Z : Nat → List Int) (HK : KeysAt w b off n I A L C Z) (hL : ∀ i, i < n → L i ≤ 1048576) :
    Calls Try.prog 9 #[.slice ao n cap] w fun e w' => ∃ a1 c1 g1 A1 C1, e = .returned (.slice a1 n c1) ∧ Cpy w w' ao n a1 c1 g1 I A A1 L C1 Z ∧ Below w.heap.size w w' ∧ (a1 = none → c1 = 0) := by
  cases ao with
  | none =>
    obtain ⟨rfl, rfl⟩ := hnl rfl
    refine (clone_nil w).mono fun e w' h => ?_
    obtain ⟨rfl, rfl⟩ := h
    exact ⟨none, 0, 0, A, C, rfl, ⟨fun h => by omega, rfl, KeysAt.none, fun i hi => by omega, fun i hi => by omega, fun h => by omega⟩, Below.refl _ _, fun _ => rfl⟩
  | some x =>
    refine (clone_some w x n cap b off hao hn I A L C Z HK hL).mono fun e w' h => ?_
    obtain ⟨rfl, hb, A', C', hC⟩ := h
    obtain ⟨f, hf⟩ := hC.row
    exact ⟨_, _, w.heap.size, A', C', rfl, ⟨fun _ => rfl, rfl, hC.keys, hC.isNil, fun i hi y hy => by obtain ⟨h1, h2, h3⟩ := hC.own i hi y hy; exact ⟨by omega, h2, h3⟩, fun _ => ⟨Nat.le_refl _, hf.lt, _, f, hf⟩⟩, hb, fun h => by cases h⟩
theorem build_any (w : World) (t s : Int) (ao : Option Addr) (n cap b off : Nat) (hnl : ao = none → n = 0 ∧ cap = 0) (hao : Heads ao n b off) (hn : n ≤ 65536) (I : Nat → Int) (A : Nat → Option Addr) (L C : Nat → Nat) (Z : Nat → List Int) (HK : KeysAt w b off n I A L C Z) (hL : ∀ i, i < n → L i ≤ 1048576) :
    Calls Try.prog 10 #[.int .u8 t, .slice ao n cap, .int .u8 s] w fun e w' => ∃ a1 c1 g1 A1 C1, e = .returned (.agg #[.int .u8 t, .slice a1 n c1, .int .u8 s]) ∧ Cpy w w' ao n a1 c1 g1 I A A1 L C1 Z ∧ Below w.heap.size w w' ∧ (a1 = none → c1 = 0) := by
  cases ao with
  | none =>
    obtain ⟨rfl, rfl⟩ := hnl rfl
    refine (build_nil w t s).mono fun e w' h => ?_
    obtain ⟨rfl, hb⟩ := h
    exact ⟨none, 0, 0, A, C, rfl, ⟨fun h => by omega, rfl, KeysAt.none, fun i hi => by omega, fun i hi => by omega, fun h => by omega⟩, hb, fun _ => rfl⟩
  | some x =>
    refine (build_some w t s x n cap b off hao hn I A L C Z HK hL).mono fun e w' h => ?_
    obtain ⟨rfl, hb, A', C', hC⟩ := h
    obtain ⟨f, hf⟩ := hC.row
    exact ⟨_, _, w.heap.size + 1, A', C', rfl, ⟨fun _ => rfl, rfl, hC.keys, hC.isNil, fun i hi y hy => by obtain ⟨h1, h2, h3⟩ := hC.own i hi y hy; exact ⟨by omega, h2, h3⟩, fun _ => ⟨by omega, hf.lt, _, f, hf⟩⟩, hb, fun h => by cases h⟩
end Go.Proofs.Qxb6605337a
