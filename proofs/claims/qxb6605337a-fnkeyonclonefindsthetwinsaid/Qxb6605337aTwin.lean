import Derived.Test.Qxb6605337aAny
namespace Go.Proofs.Qxb6605337a
open Go.ChangeShapes Go.WideShapes Go.ChangeAt Go.RowKit
set_option linter.unusedVariables false

/-! ### slices.Clone at []byte -/
theorem cb_nil (w : World) : Calls Try.prog 23 #[.slice none 0 0] w fun e w' => e = .returned (.slice none 0 0) ∧ w' = w := by
  have q36 : ∀ (w : World) (a : Option Addr) (n c n' c' : Nat), (binOp .eql 36 (.slice a n c) (.slice none n' c')).run Try.prog w = .ok (.bool a.isNone) w := fun w a n c n' c' => Lib.run_eql_slice_nil w 36 5 a n c n' c' Try.underlying36
  go_enter Try.func23, Try.ntmps23
  go_wp2
  go_ret
  exact ⟨rfl, rfl⟩
theorem ints_oneCell' (zs : List Int) : ∀ u ∈ zs.map (Value.int .u8), u.oneCell' = true := ints_oneCell _ _
theorem In.src {w : World} {x : Addr} {n cap : Nat} {zs : List Int} (h : In w (some x) n cap zs) : ∀ j u, (zs.map (Value.int .u8))[j]? = some u → w.cell? (x.add j) = some u := by
  intro j u hu
  have hj : j < zs.length := by simpa using (List.getElem?_eq_some_iff.1 hu).1
  have e : u = .int .u8 (zs.getD j 0) := by
    simp [hj] at hu
    simp [List.getD, hj, ← hu]
  rw [e]
  exact h.cell x rfl j (by have := h.len; omega)
/-- What an append onto an empty slice of one's own leaves. -/
theorem own_form {w : World} {base e size : Nat} {v : Value} {n : Nat} {xs : List Value} (h : w.ownsRow base e size v n xs) (hv : v ≠ .slice none 0 0) :
    ∃ g cap cur, v = .slice (some ⟨g, 0, none⟩) n cap ∧ base ≤ g ∧ w.heap[g]? = some (.cells cur e (0, 0)) ∧ n ≤ cap ∧ cur.size = cap * size ∧ cur.toList.take (n * size) = xs := by
  rcases h.2 with ⟨h1, _⟩ | ⟨g, cap, cur, hv', hb, hg, hn, _, hs, ht⟩
  · exact absurd h1 hv
  · exact ⟨g, cap, cur, hv', hb, hg, hn, hs, ht⟩

set_option maxHeartbeats 400000 in
theorem cb_some (w : World) (x : Addr) (n cap : Nat) (zs : List Int) (hin : In w (some x) n cap zs) (hn : n ≤ 1048576) :
    Calls Try.prog 23 #[.slice (some x) n cap] w fun e w' => ∃ g c', e = .returned (.slice (some ⟨g, 0, none⟩) n c') ∧ In w' (some ⟨g, 0, none⟩) n c' zs ∧ Below w.heap.size w w' ∧ w.heap.size ≤ g ∧ ∃ f m, w'.rowIs g 5 m f ∧ n ≤ m := by
  have q36 : ∀ (w : World) (a : Option Addr) (n c n' c' : Nat), (binOp .eql 36 (.slice a n c) (.slice none n' c')).run Try.prog w = .ok (.bool a.isNone) w := fun w a n c n' c' => Lib.run_eql_slice_nil w 36 5 a n c n' c' Try.underlying36
  obtain ⟨i0, hi, hz0, hz1, hz2⟩ := info_parts Try.info5
  have hl := hin.len
  have M1 : Hid ((zs.map (Value.int .u8)).length = n * 1) := by unfold Hid; simp; omega
  clear hl
  go_enter Try.func23, Try.ntmps23
  go_wp2_with (at_builtin; refine wpList_append_own _ rfl (.tmp 5) (.tmp 6) 36 rfl w.heap.size 5 i0 (.int .u8 0) 1 1 Try.underlying36 hi hz0 hz1 hz2 rfl (by decide) (.slice (some ⟨w.heap.size, 0, none⟩) 0 0) 0 [] rfl (World.ownsRow_made (size := 1) w #[] 0 (Nat.le_refl _) (by unfold maxLen; omega) rfl) x n cap (zs.map (Value.int .u8)) rfl M1.out (hin.below ((Below.refl w.heap.size w).alloc (Nat.le_refl _) _) (Nat.le_refl _)).src (ints_oneCell' _) (by unfold maxLen; omega) (by omega) (by simp) ?_; intro v' w1 hown' hgrow' hnil)
  obtain ⟨g, c', cur, hv, hg, hh, hnc, hcs, htk⟩ := own_form hown' (fun e => by have := (hnil.1 e).1; cases this)
  rw [Nat.zero_add] at hv hnc htk
  rw [List.nil_append, Nat.mul_one] at htk
  rw [hv]
  have hb : Below w.heap.size w w1 := ((Below.refl w.heap.size w).alloc (Nat.le_refl _) _).grown hgrow' (by simp) (fun k hk => by simp [Value.ownBlock] at hk; omega)
  clear hown' hgrow' hnil hv
  go_wp2
  go_ret
  have hr : w1.rowIs g 5 c' (fun i => cur[i]?.getD undef) := ⟨cur, hh, by omega, fun i hi => by simp [Array.getElem?_eq_getElem (show i < cur.size by omega)]⟩
  refine ⟨g, c', rfl, ⟨hin.len, hin.bd, fun h => by (cases h), fun y hy i hi => ?_⟩, hb, hg, _, c', hr, hnc⟩
  cases hy
  rw [add_plain, Nat.zero_add, hr.cell (by omega)]
  have e : cur.toList[i]? = (zs.map (Value.int .u8))[i]? := by rw [← htk, List.getElem?_take, if_pos hi]
  have hl := hin.len
  rw [Array.getElem?_toList] at e
  simp only [e]
  simp [List.getD, show i < zs.length by omega]
/-- slices.Clone at []byte, whatever comes in. -/
theorem cb_any (w : World) (a : Option Addr) (n cap : Nat) (zs : List Int) (hin : In w a n cap zs) (hn : n ≤ 1048576) :
    Calls Try.prog 23 #[.slice a n cap] w fun e w' => ∃ a' c', e = .returned (.slice a' n c') ∧ In w' a' n c' zs ∧ Below w.heap.size w w' ∧ a'.isNone = a.isNone ∧ ∀ x, a' = some x → w.heap.size ≤ x.block ∧ x.block < w'.heap.size ∧ ∃ f m, w'.rowIs x.block 5 m f ∧ n ≤ m := by
  cases a with
  | none =>
    obtain ⟨rfl, rfl⟩ := hin.isNil rfl
    refine (cb_nil w).mono fun e w' h => ?_
    obtain ⟨rfl, rfl⟩ := h
    exact ⟨none, 0, rfl, hin, Below.refl _ _, rfl, fun x h => by cases h⟩
  | some x =>
    refine (cb_some w x n cap zs hin hn).mono fun e w' h => ?_
    obtain ⟨g, c', rfl, h1, h2, h3, f, m, h4, h5⟩ := h
    exact ⟨_, _, rfl, h1, h2, rfl, fun x h => by cases h; exact ⟨h3, h4.lt, f, m, h4, h5⟩⟩

/-! ### slices.Clone at []AuthKey -/
/-- The keys' cells, one behind the other. -/
def cellOf (I : Nat → Int) (A : Nat → Option Addr) (L C : Nat → Nat) (j : Nat) : Value := if j % 2 = 0 then .int .u8 (I (j / 2)) else .slice (A (j / 2)) (L (j / 2)) (C (j / 2))
theorem cellOf_id (I : Nat → Int) (A : Nat → Option Addr) (L C : Nat → Nat) (i : Nat) : cellOf I A L C (i * 2) = .int .u8 (I i) := by
  unfold cellOf; rw [if_pos (by omega), show i * 2 / 2 = i by omega]
theorem cellOf_sec (I : Nat → Int) (A : Nat → Option Addr) (L C : Nat → Nat) (i : Nat) : cellOf I A L C (i * 2 + 1) = .slice (A i) (L i) (C i) := by
  unfold cellOf; rw [if_neg (by omega), show (i * 2 + 1) / 2 = i by omega]
theorem cellOf_one (I : Nat → Int) (A : Nat → Option Addr) (L C : Nat → Nat) (m : Nat) : ∀ u ∈ (List.range m).map (cellOf I A L C), u.oneCell' = true := by
  intro u hu
  obtain ⟨j, _, rfl⟩ := List.mem_map.1 hu
  unfold cellOf; split <;> rfl
theorem KeysAt.src {w : World} {g n : Nat} {x : Addr} {I : Nat → Int} {A : Nat → Option Addr} {L C : Nat → Nat} {Z : Nat → List Int} (h : KeysAt w g 0 n I A L C Z) (hx : Heads (some x) n g 0) :
    ∀ j u, ((List.range (n * 2)).map (cellOf I A L C))[j]? = some u → w.cell? (x.add j) = some u := by
  intro j u hu
  have hj : j < n * 2 := by simpa using (List.getElem?_eq_some_iff.1 hu).1
  have e : u = cellOf I A L C j := by simp [hj] at hu; exact hu.symm
  obtain rfl := Option.some.inj (hx (by omega))
  rw [e, add_plain]
  rcases (show (∃ i, j = i * 2) ∨ ∃ i, j = i * 2 + 1 from by
    rcases Nat.mod_two_eq_zero_or_one j with h | h
    · exact .inl ⟨j / 2, by omega⟩
    · exact .inr ⟨j / 2, by omega⟩) with ⟨i, rfl⟩ | ⟨i, rfl⟩
  · rw [cellOf_id]; exact h.id i (by omega)
  · rw [cellOf_sec, ← Nat.add_assoc]; exact h.sec i (by omega)

theorem ck_nil (w : World) : Calls Try.prog 22 #[.slice none 0 0] w fun e w' => e = .returned (.slice none 0 0) ∧ w' = w := by
  have q27 : ∀ (w : World) (a : Option Addr) (n c n' c' : Nat), (binOp .eql 27 (.slice a n c) (.slice none n' c')).run Try.prog w = .ok (.bool a.isNone) w := fun w a n c n' c' => Lib.run_eql_slice_nil w 27 38 a n c n' c' Try.underlying27
  go_enter Try.func22, Try.ntmps22
  go_wp2
  go_ret
  exact ⟨rfl, rfl⟩
set_option maxHeartbeats 400000 in
theorem ck_some (w : World) (x : Addr) (n cap g0 : Nat) (hx : Heads (some x) n g0 0) (I : Nat → Int) (A : Nat → Option Addr) (L C : Nat → Nat) (Z : Nat → List Int) (HK : KeysAt w g0 0 n I A L C Z) (hn : n ≤ 65536) :
    Calls Try.prog 22 #[.slice (some x) n cap] w fun e w' => ∃ g c' f, e = .returned (.slice (some ⟨g, 0, none⟩) n c') ∧ w.heap.size ≤ g ∧ Below w.heap.size w w' ∧ w'.rowIs g 38 (c' * 2) f ∧ n ≤ c' ∧ ∀ i, i < n → f (i * 2) = .int .u8 (I i) ∧ f (i * 2 + 1) = .slice (A i) (L i) (C i) := by
  have q27 : ∀ (w : World) (a : Option Addr) (n c n' c' : Nat), (binOp .eql 27 (.slice a n c) (.slice none n' c')).run Try.prog w = .ok (.bool a.isNone) w := fun w a n c n' c' => Lib.run_eql_slice_nil w 27 38 a n c n' c' Try.underlying27
  obtain ⟨i0, hi, hz0, hz1, hz2⟩ := info_parts Try.info38
  have M1 : Hid (((List.range (n * 2)).map (cellOf I A L C)).length = n * 2) := by unfold Hid; simp
  go_enter Try.func22, Try.ntmps22
  go_wp2_with (at_builtin; refine wpList_append_own _ rfl (.tmp 5) (.tmp 6) 27 rfl w.heap.size 38 i0 (.agg #[.int .u8 0, .slice none 0 0]) 2 32 Try.underlying27 hi hz0 hz1 hz2 rfl (by decide) (.slice (some ⟨w.heap.size, 0, none⟩) 0 0) 0 [] rfl (World.ownsRow_made (size := 2) w #[] 0 (Nat.le_refl _) (by unfold maxLen; omega) rfl) x n cap ((List.range (n * 2)).map (cellOf I A L C)) rfl M1.out ((HK.below ((Below.refl w.heap.size w).alloc (Nat.le_refl _) _) (Nat.le_refl _)).src hx) (cellOf_one _ _ _ _ _) (by unfold maxLen; omega) (by omega) (by simp) ?_; intro v' w1 hown' hgrow' hnil)
  obtain ⟨g, c', cur, hv, hg, hh, hnc, hcs, htk⟩ := own_form hown' (fun e => by have := (hnil.1 e).1; cases this)
  rw [Nat.zero_add] at hv hnc htk
  rw [List.nil_append] at htk
  rw [hv]
  have hb : Below w.heap.size w w1 := ((Below.refl w.heap.size w).alloc (Nat.le_refl _) _).grown hgrow' (by simp) (fun k hk => by simp [Value.ownBlock] at hk; omega)
  clear hown' hgrow' hnil hv
  go_wp2
  go_ret
  have hr : w1.rowIs g 38 (c' * 2) (fun i => cur[i]?.getD undef) := ⟨cur, hh, by omega, fun i hi => by simp [Array.getElem?_eq_getElem (show i < cur.size by omega)]⟩
  have hat : ∀ j, j < n * 2 → cur[j]?.getD undef = cellOf I A L C j := by
    intro j hj
    have e : cur.toList[j]? = ((List.range (n * 2)).map (cellOf I A L C))[j]? := by rw [← htk, List.getElem?_take, if_pos hj]
    rw [Array.getElem?_toList] at e
    rw [e]; simp [hj]
  refine ⟨g, c', _, rfl, hg, hb, hr, hnc, fun i hi => ⟨?_, ?_⟩⟩
  · rw [hat _ (by omega), cellOf_id]
  · rw [hat _ (by omega), cellOf_sec]
end Go.Proofs.Qxb6605337a
