import Derived.Test.Qxb6605337aLawOne
import Derived.Deep.SlicePairs
import Derived.OpenShut
namespace Go.Proofs.Qxb6605337a
open Go.ChangeShapes Go.WideShapes Go.ChangeAt Go.RowKit
set_option linter.unusedVariables false

theorem byte_bd {n : Int} (h : (Lit.int .u8 n).wf = true) : 0 ≤ n ∧ n ≤ 255 := by
  simp [Lit.wf, IntKind.min, IntKind.max, IntKind.signed, IntKind.bits] at h; omega
theorem bytes_bd {zs : List Int} (h : ∀ n ∈ zs, (Lit.int .u8 n).wf = true) (i : Nat) : 0 ≤ zs.getD i 0 ∧ zs.getD i 0 ≤ 255 := by
  by_cases hi : i < zs.length
  · have e : zs.getD i 0 = zs[i] := by simp [List.getD, hi]
    rw [e]; exact byte_bd (h _ (List.getElem_mem hi))
  · have e : zs.getD i 0 = 0 := by simp [List.getD, List.getElem?_eq_none (Nat.le_of_not_lt hi)]
    rw [e]; omega

/-- One key, as the walk wants it. -/
def KeyIs (w : World) (x : Addr) (i : Nat) (q : Int × Option Addr × Nat × Nat × List Int) : Prop :=
  w.cell? (x.add (i * 2)) = some (.int .u8 q.1) ∧ w.cell? (x.add (i * 2 + 1)) = some (.slice q.2.1 q.2.2.1 q.2.2.2.1) ∧ In w q.2.1 q.2.2.1 q.2.2.2.1 q.2.2.2.2 ∧ 0 ≤ q.1 ∧ q.1 ≤ 255 ∧ q.2.2.1 ≤ maxLen

theorem in_of {w : World} {H : Type} {enc : TypeId × Value → H} {fuel : Nat} {v : Value} {x : DataW H × List MemPlace} (h : DataW.trod enc Try.prog w 0 (fun _ => true) true fuel 36 [v] = some x) :
    ∃ a l c zs, v = .slice a l c ∧ In w a l c zs ∧ l ≤ maxLen := by
  rcases open_ints Try.underlying36 Try.underlying5 (by kernel_rfl) h with ⟨hcs, _⟩ | ⟨a, l, c, zs, hcs, _, hl, hm, hz, _, hcell, hwz⟩
  · simp at hcs
    exact ⟨none, 0, 0, [], hcs, In.empty (fun _ => rfl), by unfold maxLen; omega⟩
  · simp at hcs
    simp at hz
    refine ⟨some a, l, c, zs.take l, hcs, ⟨by simp; omega, bytes_bd (fun n hn => hwz n (List.mem_of_mem_take hn)), fun h => by (cases h), fun y hy i hi => ?_⟩, by omega⟩
    cases hy
    rw [hcell i (by omega)]; simp [List.getD, hi]

theorem keys_of {W : World} {H : Type} {enc : TypeId × Value → H} {a1 : Option Addr} {n cap : Nat} {d : DataW H} {p : List MemPlace} (h1 : DataW.Trod enc Try.prog W 0 (fun _ => true) true 22 (.slice a1 n cap) d p) :
    ∃ b off I A L C Z, IsKeys W a1 n cap b off I A L C Z := by
  obtain ⟨fuel, hf⟩ := h1
  rcases Go.Deep.open_slice_pairs Try.underlying22 Try.underlying41 (by kernel_rfl) rfl rfl (by kernel_rfl) (by kernel_rfl) hf with ⟨hcs, _⟩ | ⟨x, l, c, m, fu, V0, V1, D0, D1, P0, P1, hcs, _, hl, hm, hmm, _, hx⟩
  · simp [Value.cells] at hcs
    obtain ⟨rfl, rfl, rfl⟩ := hcs
    exact ⟨0, 0, fun _ => 0, fun _ => none, fun _ => 0, fun _ => 0, fun _ => [], fun h => by omega, fun _ => ⟨rfl, rfl⟩, by unfold maxLen; omega, KeysAt.none, fun i hi => by omega⟩
  · simp [Value.cells] at hcs
    obtain ⟨rfl, rfl, rfl⟩ := hcs
    simp at hmm
    have each : ∀ i, i < n → ∃ q, KeyIs W x i q := by
      intro i hi
      obtain ⟨e0, e1, t0, t1⟩ := hx i (by omega)
      obtain ⟨z, hz, _, hw⟩ := DataW.trod_int Try.underlying5 t0
      obtain ⟨a, l', c', zs, hv, hin, hlm⟩ := in_of t1
      simp at hz
      rw [hz] at e0
      rw [hv] at e1
      exact ⟨(z, a, l', c', zs), e0, e1, hin, (byte_bd hw).1, (byte_bd hw).2, hlm⟩
    obtain ⟨q, hq⟩ := Go.Deep.choose_lt each
    obtain ⟨b, off, spot⟩ := x
    refine ⟨b, off, fun i => (q i).1, fun i => (q i).2.1, fun i => (q i).2.2.1, fun i => (q i).2.2.2.1, fun i => (q i).2.2.2.2, ?_, fun h => by (cases h), by omega, ⟨fun i hi => ?_, fun i hi => ?_, fun i hi => ?_, fun i hi => ?_⟩, fun i hi => ?_⟩
    · intro hn
      have hspot : spot = none := by simpa [Addr.add] using World.cell?_spot (hq 0 hn).1
      rw [hspot]
    · have hspot : spot = none := by simpa [Addr.add] using World.cell?_spot (hq 0 (by omega)).1
      subst hspot
      rw [← add_plain]; exact (hq i hi).1
    · have hspot : spot = none := by simpa [Addr.add] using World.cell?_spot (hq 0 (by omega)).1
      subst hspot
      rw [Nat.add_assoc, ← add_plain]; exact (hq i hi).2.1
    · exact (hq i hi).2.2.1
    · exact ⟨(hq i hi).2.2.2.1, (hq i hi).2.2.2.2.1⟩
    · exact (hq i hi).2.2.2.2.2
end Go.Proofs.Qxb6605337a
