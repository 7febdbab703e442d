import Derived.Test.Qxb6605243aRows
import Derived.WalkKit
import Derived.ProofKit
import Derived.Below
import Derived.WalkSpells
import Derived.Laws.CopyOwn
namespace Go.Proofs.Qxb6605243a
open Go.ChangeShapes Go.WideShapes Go.ChangeAt Go.RowKit

theorem Try.info5 : (Try.prog.info? 5).map (fun i => (i.zero, i.size, i.bytes)) = some (some (.int .u8 0), 1, 1) := by kernel_rfl
theorem Try.size5 : (Try.prog.info? 5).map (·.size) = some 1 := by kernel_rfl

/-- The block of a row that the call itself has made. -/
theorem own_block {w : World} {base e : Nat} {g n cap : Nat} {xs : List Value} (h : w.ownsRow base e 1 (.slice (some ⟨g, 0, none⟩) n cap) n xs) :
    ∃ cur : List Value, w.heap[g]? = some (.cells cur.toArray e (0, 0)) ∧ cur.length = cap := by
  rcases h.2 with ⟨h1, _⟩ | ⟨g', cap', cur, hv, _, hg, _, _, hs, _⟩
  · cases h1
  · cases hv
    exact ⟨cur.toList, by simpa using hg, by simpa using hs⟩

/-- What lies in the row behind a copy that fills it. -/
theorem cells_copied {w : World} {g : Nat} {cur : List Value} {zs : List Int} (h : Hid (w.heap[g]? = some (.cells (splice cur 0 (zs.map (Value.int .u8))).toArray 5 (0, 0)))) (hl : cur.length = zs.length) :
    ∀ i, i < zs.length → w.cell? ⟨g, i, none⟩ = some (.int .u8 (zs.getD i 0)) := by
  intro i hi
  rw [cell_of_row w g i _ 5 (0, 0) h.out]
  have e : splice cur 0 (zs.map (Value.int .u8)) = zs.map (Value.int .u8) := by
    unfold splice; simp [hl]
  rw [e]
  simp [hi]

/-- An address whose cells are known is a plain one. -/
theorem plain_addr {w : World} {x : Addr} {zs : List Int} (hp : 0 < zs.length) (hc : ∀ i, i < zs.length → w.cell? (x.add i) = some (.int .u8 (zs.getD i 0))) :
    ∃ b off, x = ⟨b, off, none⟩ ∧ ∀ i, i < zs.length → w.cell? ⟨b, off + i, none⟩ = some (.int .u8 (zs.getD i 0)) := by
  obtain ⟨b, off, spot⟩ := x
  have hspot : spot = none := by simpa [Addr.add] using World.cell?_spot (hc 0 hp)
  subst hspot
  exact ⟨b, off, rfl, fun i hi => by rw [← add_plain]; exact hc i hi⟩
theorem byte_bd {n : Int} (h : (Lit.int .u8 n).wf = true) : 0 ≤ n ∧ n ≤ 255 := by
  simp [Lit.wf, IntKind.min, IntKind.max, IntKind.signed, IntKind.bits] at h; omega
theorem bytes_bd {zs : List Int} (h : ∀ n ∈ zs, (Lit.int .u8 n).wf = true) (i : Nat) : 0 ≤ zs.getD i 0 ∧ zs.getD i 0 ≤ 255 := by
  by_cases hi : i < zs.length
  · have e : zs.getD i 0 = zs[i] := by simp [List.getD, hi]
    rw [e]; exact byte_bd (h _ (List.getElem_mem hi))
  · have e : zs.getD i 0 = 0 := by simp [List.getD, List.getElem?_eq_none (Nat.le_of_not_lt hi)]
    rw [e]; omega
/-- The source's cells behind a make. -/
theorem copy_src {w w1 : World} {x : Addr} {zs : List Int} (hg : w.grownBy w1 none) (hc : ∀ i, i < zs.length → w.cell? (x.add i) = some (.int .u8 (zs.getD i 0))) :
    ∀ j v, (zs.map (Value.int .u8))[j]? = some v → w1.cell? (x.add j) = some v := by
  intro j v hv
  have hj : j < zs.length := by simpa using (List.getElem?_eq_some_iff.1 hv).1
  have e : v = .int .u8 (zs.getD j 0) := by
    simp [hj] at hv
    simp [List.getD, hj, ← hv]
  rw [e]
  exact hg.cell (hc j hj) (by simp)
theorem below_made {w w1 : World} (hg : w.grownBy w1 none) : Below w.heap.size w w1 := (Below.refl _ _).grown hg (Nat.le_refl _) (by simp)
/-- The elements alone of what came in. -/
theorem take_cells {w : World} {x : Addr} {zs : List Int} (n : Nat) (hc : ∀ i, i < zs.length → w.cell? (x.add i) = some (.int .u8 (zs.getD i 0))) :
    ∀ i, i < (zs.take n).length → w.cell? (x.add i) = some (.int .u8 ((zs.take n).getD i 0)) := by
  intro i hi
  have h2 : i < zs.length := by simp at hi; omega
  have h3 : i < n := by simp at hi; omega
  rw [hc i h2]; simp [List.getD, h3]
theorem take_bd {zs : List Int} (n : Nat) (h : ∀ n ∈ zs, (Lit.int .u8 n).wf = true) : ∀ m ∈ zs.take n, (Lit.int .u8 m).wf = true := fun m hm => h m (List.mem_of_mem_take hm)
end Go.Proofs.Qxb6605243a
