import Derived.Test.Qxb6605243aNumB
import Derived.WalkSmall
namespace Go.Proofs.Qxb6605243a
open Go.ChangeShapes Go.WideShapes Go.ChangeAt Go.RowKit
set_option linter.unusedVariables false

theorem number_yes (bp bd g n cap pos k : Nat) (hn : n ≤ 2097152) (hpos : pos < n) (zs : List Int) (w : World) (HZ : Bytes w g n zs)
    (hp0 : w.cell? ⟨bp, 0, none⟩ = some (.pointer (some ⟨bd, 0, none⟩))) (hp1 : w.cell? ⟨bp, 1, none⟩ = some (.int .i64 (pos : Int))) (hpf : w.frozen? ⟨bp, 1, none⟩ = false)
    (hd0 : w.cell? ⟨bd, 0, none⟩ = some (.slice (some ⟨g, 0, none⟩) n cap)) (hk : Plain.numN (zs.drop pos) = some k) :
    Calls Try.prog 23 #[.pointer (some ⟨bp, 0, none⟩)] w fun e w' => e = .returned (.bool true) ∧ ∃ q, w' = (w.drewN q).setCell ⟨bp, 1, none⟩ (.int .i64 ((pos + k : Nat) : Int)) := by
  refine (number_any bp bd g n cap pos hn hpos zs w HZ hp0 hp1 hpf hd0).mono fun e w' h => ?_
  rcases h with ⟨k', q, h1, h2, h3⟩ | ⟨q, h1, _⟩
  · rw [hk] at h1; obtain rfl := Option.some.inj h1; exact ⟨h2, q, h3⟩
  · rw [hk] at h1; cases h1
theorem number_no (bp bd g n cap pos : Nat) (hn : n ≤ 2097152) (hpos : pos < n) (zs : List Int) (w : World) (HZ : Bytes w g n zs)
    (hp0 : w.cell? ⟨bp, 0, none⟩ = some (.pointer (some ⟨bd, 0, none⟩))) (hp1 : w.cell? ⟨bp, 1, none⟩ = some (.int .i64 (pos : Int))) (hpf : w.frozen? ⟨bp, 1, none⟩ = false)
    (hd0 : w.cell? ⟨bd, 0, none⟩ = some (.slice (some ⟨g, 0, none⟩) n cap)) (hk : Plain.numN (zs.drop pos) = none) :
    Calls Try.prog 23 #[.pointer (some ⟨bp, 0, none⟩)] w fun e w' => e = .returned (.bool false) ∧ ∃ q, w' = w.drewN q := by
  refine (number_any bp bd g n cap pos hn hpos zs w HZ hp0 hp1 hpf hd0).mono fun e w' h => ?_
  rcases h with ⟨k', q, h1, h2, h3⟩ | ⟨q, h1, h2, h3⟩
  · rw [hk] at h1; cases h1
  · exact ⟨h2, q, h3⟩

theorem below_two {w : World} (o1 o2 : Obj) : Below w.heap.size w ((w.alloc o1).alloc o2) := ((Below.refl _ _).alloc (Nat.le_refl _) _).alloc (by simp) _
theorem Bytes.lt {w : World} {g n : Nat} {zs : List Int} (h : Bytes w g n zs) (hn : 0 < n) : g < w.heap.size := World.block_lt_of_cell? _ _ (h.cell 0 hn)

/-- The world at the call of 'number': a document over the data, a parser over the document. -/
def atCall (w : World) (g n cap pos : Nat) : World :=
  (w.alloc (.cells #[.slice (some ⟨g, 0, none⟩) n cap, .slice none 0 0] 44)).alloc (.cells #[.pointer (some ⟨w.heap.size, 0, none⟩), .int .i64 (pos : Int)] 46)
theorem atCall_below (w : World) (g n cap pos : Nat) : Below w.heap.size w (atCall w g n cap pos) := below_two _ _
theorem atCall_facts (w : World) (g n cap pos : Nat) :
    (atCall w g n cap pos).cell? ⟨w.heap.size + 1, 0, none⟩ = some (.pointer (some ⟨w.heap.size, 0, none⟩)) ∧ (atCall w g n cap pos).cell? ⟨w.heap.size + 1, 1, none⟩ = some (.int .i64 (pos : Int)) ∧
    (atCall w g n cap pos).frozen? ⟨w.heap.size + 1, 1, none⟩ = false ∧ (atCall w g n cap pos).cell? ⟨w.heap.size, 0, none⟩ = some (.slice (some ⟨g, 0, none⟩) n cap) := by
  unfold atCall
  refine ⟨?_, ?_, ?_, ?_⟩ <;> go_simp

theorem call_yes (g n cap pos k : Nat) (hn : n ≤ 2097152) (hpos : pos < n) (zs : List Int) (w : World) (HZ : Bytes w g n zs) (hk : Plain.numN (zs.drop pos) = some k) :
    Calls Try.prog 23 #[.pointer (some ⟨w.heap.size + 1, 0, none⟩)] (atCall w g n cap pos) fun e w' => e = .returned (.bool true) ∧ w'.cell? ⟨w.heap.size + 1, 1, none⟩ = some (.int .i64 ((pos + k : Nat) : Int)) ∧ Below w.heap.size w w' := by
  obtain ⟨f0, f1, f2, f3⟩ := atCall_facts w g n cap pos
  have hb := atCall_below w g n cap pos
  refine (number_yes _ _ g n cap pos k hn hpos zs _ (HZ.below hb (HZ.lt (by omega))) f0 f1 f2 f3 hk).mono fun e w' h => ?_
  obtain ⟨h1, q, rfl⟩ := h
  refine ⟨h1, ?_, (below_drewN hb q).setCell (by simp) _⟩
  exact World.cell?_setCell_same' _ _ _ (by rw [World.cell?_drewN, f1]; rfl)
theorem call_no (g n cap pos : Nat) (hn : n ≤ 2097152) (hpos : pos < n) (zs : List Int) (w : World) (HZ : Bytes w g n zs) (hk : Plain.numN (zs.drop pos) = none) :
    Calls Try.prog 23 #[.pointer (some ⟨w.heap.size + 1, 0, none⟩)] (atCall w g n cap pos) fun e w' => e = .returned (.bool false) ∧ w'.cell? ⟨w.heap.size + 1, 1, none⟩ = some (.int .i64 (pos : Int)) ∧ Below w.heap.size w w' := by
  obtain ⟨f0, f1, f2, f3⟩ := atCall_facts w g n cap pos
  have hb := atCall_below w g n cap pos
  refine (number_no _ _ g n cap pos hn hpos zs _ (HZ.below hb (HZ.lt (by omega))) f0 f1 f2 f3 hk).mono fun e w' h => ?_
  obtain ⟨h1, q, rfl⟩ := h
  exact ⟨h1, by rw [World.cell?_drewN]; exact f1, below_drewN hb q⟩

set_option maxHeartbeats 400000 in
theorem zznumber_yes (g n cap pos k : Nat) (hn : n ≤ 2097152) (hpos : pos < n) (zs : List Int) (w : World) (HZ : Bytes w g n zs) (hk : Plain.numN (zs.drop pos) = some k) :
    Calls Try.prog 15 #[.slice (some ⟨g, 0, none⟩) n cap, .int .i64 (pos : Int)] w fun e w' => e = .returned (.tuple #[.bool true, .int .i64 ((pos + k : Nat) : Int)]) ∧ Below w.heap.size w w' := by
  have K := call_yes g n cap pos k hn hpos zs w HZ hk
  unfold atCall at K
  clear hk
  go_enter Try.func15, Try.ntmps15
  go_wp2_with (go_at_call 23; refine K.mono ?_; rintro e w' ⟨rfl, hc, hb⟩; clear K)
  go_quiet (fail)
  go_wp2
  go_ret2
  exact ⟨rfl, below_drewN hb _⟩
set_option maxHeartbeats 400000 in
theorem zznumber_no (g n cap pos : Nat) (hn : n ≤ 2097152) (hpos : pos < n) (zs : List Int) (w : World) (HZ : Bytes w g n zs) (hk : Plain.numN (zs.drop pos) = none) :
    Calls Try.prog 15 #[.slice (some ⟨g, 0, none⟩) n cap, .int .i64 (pos : Int)] w fun e w' => e = .returned (.tuple #[.bool false, .int .i64 (pos : Int)]) ∧ Below w.heap.size w w' := by
  have K := call_no g n cap pos hn hpos zs w HZ hk
  unfold atCall at K
  clear hk
  go_enter Try.func15, Try.ntmps15
  go_wp2_with (go_at_call 23; refine K.mono ?_; rintro e w' ⟨rfl, hc, hb⟩; clear K)
  go_quiet (fail)
  go_wp2
  go_ret2
  exact ⟨rfl, below_drewN hb _⟩
end Go.Proofs.Qxb6605243a
