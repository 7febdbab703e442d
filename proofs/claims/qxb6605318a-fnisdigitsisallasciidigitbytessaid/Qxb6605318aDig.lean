import Derived.Test.Qxb6605318aRows
import Derived.WalkKit
import Derived.ProofKit
import Derived.Below
import Derived.WalkSpells
import Derived.Laws.RangeAny
namespace Go.Proofs.Qxb6605318a
open Go.ChangeShapes Go.WideShapes Go.ChangeAt Go.RowKit
set_option linter.unusedVariables false

/-- The byte at a place is a digit. -/
def digAt (s : ByteArray) (m : Nat) : Prop := ∀ h : m < s.size, 48 ≤ (s[m]'h).toNat ∧ (s[m]'h).toNat ≤ 57
/-- The first k bytes are digits. -/
def digsTo (s : ByteArray) (k : Nat) : Prop := ∀ m, m < k → digAt s m
theorem digsTo_zero (s : ByteArray) : digsTo s 0 := fun m h => by omega
theorem digsTo_succ {s : ByteArray} {k : Nat} (h : digsTo s k) (hk : k < s.size) (hd : 48 ≤ (s[k]'hk).toNat ∧ (s[k]'hk).toNat ≤ 57) : digsTo s (k + 1) := by
  intro m hm
  by_cases e : m = k
  · subst e; exact fun _ => hd
  · exact h m (by omega)
theorem not_digs {s : ByteArray} {k n : Nat} (hk : k < s.size) (hn : k < n) (hd : ¬ (48 ≤ (s[k]'hk).toNat ∧ (s[k]'hk).toNat ≤ 57)) : ¬ digsTo s n := fun h => hd (h k hn hk)

theorem some_bytes (s : ByteArray) : (!s.toList.isEmpty) = true ↔ 0 < s.size := by
  rw [ByteArray.toList_eq]
  obtain ⟨⟨l⟩⟩ := s
  cases l with
  | nil => simp [ByteArray.size]
  | cons x xs => simp [ByteArray.size]
/-- What isDigits leaves. -/
def DigPost (s : ByteArray) (w : World) (e : Ending) (w' : World) : Prop := ∃ b : Bool, e = .returned (.bool b) ∧ (b = true ↔ 0 < s.size ∧ digsTo s s.size) ∧ ∃ p, w' = w.iter s p
theorem DigPost.no {s : ByteArray} {w : World} {p : Nat} (h : ¬ digsTo s s.size) : DigPost s w (.returned (.bool false)) (w.iter s p) := ⟨false, rfl, by simp; intro _; exact h, p, rfl⟩

set_option maxHeartbeats 400000 in
theorem isDigits_any (s : ByteArray) (w : World) :
    Calls Try.prog 26 #[.string s] w fun e w' => DigPost s w e w' := by
  go_enter Try.func26, Try.ntmps26
  go_wp2
  go_loopw [4] (fun c wr => ∃ k : Nat, k ≤ s.size ∧ wr = w.iter s k ∧ Hid (digsTo s k)) (fun _ wr => s.size - wr.iterPos w.heap.size)
  case atStart => exact ⟨0, by omega, rfl, digsTo_zero s⟩
  case round =>
    obtain ⟨k, hk, rfl, H⟩ := hrel
    by_cases hlt : k < s.size
    · by_cases ha : (s[k]'hlt).toNat < 128
      · have hnx : ∀ ty, (Instr.next (.pointer (some ⟨w.heap.size, 0, none⟩)) true ty).run Try.prog (w.iter s k) = _ := fun ty => run_next_ascii w s k ty hlt ha
        by_cases hd : 48 ≤ (s[k]'hlt).toNat ∧ (s[k]'hlt).toNat ≤ 57
        · have H' : Hid (digsTo s (k + 1)) := digsTo_succ H.out hlt hd
          obtain ⟨c, hcd⟩ : ∃ c, c = (s[k]'hlt).toNat := ⟨_, rfl⟩
          rw [← hcd] at hnx hd
          clear hcd ha H
          go_wp2
          go_roundw
          case rel => exact ⟨k + 1, by omega, rfl, H'⟩
          case measure => simp; omega
        · have HN : Hid (¬ digsTo s s.size) := not_digs hlt hlt hd
          obtain ⟨c, hcd⟩ : ∃ c, c = (s[k]'hlt).toNat := ⟨_, rfl⟩
          rw [← hcd] at hnx hd
          clear hcd ha H
          rcases (show c < 48 ∨ 57 < c from by omega) with h | h
          all_goals
            clear hd
            go_wp2
            go_ret
            exact DigPost.no HN.out
      · have hnx : ∀ ty, (Instr.next (.pointer (some ⟨w.heap.size, 0, none⟩)) true ty).run Try.prog (w.iter s k) = _ := fun ty => run_next_any w s k ty hlt
        have hh := (decode_high s k hlt (by omega)).1
        have HN : Hid (¬ digsTo s s.size) := not_digs hlt hlt (by omega)
        obtain ⟨c, hcd⟩ : ∃ c, c = (Utf8.decode s k).1 := ⟨_, rfl⟩
        obtain ⟨q, hqd⟩ : ∃ q, q = k + (Utf8.decode s k).2 := ⟨_, rfl⟩
        rw [← hcd, ← hqd] at hnx
        rw [← hcd] at hh
        clear hcd hqd ha H
        go_wp2
        go_ret
        exact DigPost.no HN.out
    · have hnx : ∀ ty, (Instr.next (.pointer (some ⟨w.heap.size, 0, none⟩)) true ty).run Try.prog (w.iter s k) = _ := fun ty => run_next_end w s k ty hlt
      have HE : Hid (digsTo s s.size) := by have e : k = s.size := by omega
                                            rw [← e]; exact H.out
      clear H
      go_wp2
      go_ret
      exact ⟨_, rfl, ⟨fun h => ⟨(some_bytes s).1 h, HE.out⟩, fun h => (some_bytes s).2 h.1⟩, k, rfl⟩

theorem zz_any (s : ByteArray) (w : World) : Calls Try.prog 16 #[.string s] w fun e w' => DigPost s w e w' := by
  go_enter Try.func16, Try.ntmps16
  go_wp2_with (go_at_call 26; refine (isDigits_any _ _).mono ?_; rintro e w' ⟨b, rfl, h1, p, rfl⟩)
  go_ret
  exact ⟨b, rfl, h1, p, rfl⟩
theorem zz_yes (s : ByteArray) (w : World) (h0 : 0 < s.size) (h : digsTo s s.size) : Calls Try.prog 16 #[.string s] w fun e w' => e = .returned (.bool true) ∧ ∃ p, w' = w.iter s p := by
  refine (zz_any s w).mono fun e w' hp => ?_
  obtain ⟨b, rfl, h1, p, rfl⟩ := hp
  rw [h1.2 ⟨h0, h⟩]; exact ⟨rfl, p, rfl⟩
theorem zz_no (s : ByteArray) (w : World) (h : ¬ (0 < s.size ∧ digsTo s s.size)) : Calls Try.prog 16 #[.string s] w fun e w' => e = .returned (.bool false) ∧ ∃ p, w' = w.iter s p := by
  refine (zz_any s w).mono fun e w' hp => ?_
  obtain ⟨b, rfl, h1, p, rfl⟩ := hp
  have : b = false := by
    cases b
    · rfl
    · exact absurd (h1.1 rfl) h
  rw [this]; exact ⟨rfl, p, rfl⟩
theorem grown_iter (w : World) (s : ByteArray) (p : Nat) : Grown w (w.iter s p) := by
  refine ⟨World.keptBut_alloc _ _ _, fun a => ?_, by show w.heap.size ≤ (w.heap.push _).size; simp⟩
  by_cases h : a.block = w.heap.size
  · have e1 : (w.alloc (.stringIter s p)).heap[a.block]? = some (.stringIter s p) := by rw [h]; exact World.iter_heap w s p
    have e2 : w.heap[a.block]? = none := by rw [h]; simp
    show (w.alloc (.stringIter s p)).frozen? a = _
    simp [World.frozen?, e1, e2]
  · exact World.frozen?_alloc_old _ _ _ h
theorem isDigitByte_any (c : Int) (w : World) :
    Calls Try.prog 15 #[.int .u8 c] w fun e w' => e = .returned (.bool (decide (48 ≤ c ∧ c ≤ 57))) ∧ w' = w := by
  rcases (show (48 ≤ c ∧ c ≤ 57) ∨ c < 48 ∨ 57 < c from by omega) with h | h | h
  · have hd : decide (c ≤ 57) = true := decide_eq_true (by omega)
    rw [decide_eq_true h]
    go_enter Try.func15, Try.ntmps15
    go_wp2
    go_ret
    exact ⟨rfl, rfl⟩
  · rw [decide_eq_false (show ¬ (48 ≤ c ∧ c ≤ 57) by omega)]
    go_enter Try.func15, Try.ntmps15
    go_wp2
    go_ret
    exact ⟨rfl, rfl⟩
  · have hd : decide (c ≤ 57) = false := decide_eq_false (by omega)
    rw [decide_eq_false (show ¬ (48 ≤ c ∧ c ≤ 57) by omega)]
    go_enter Try.func15, Try.ntmps15
    go_wp2
    go_ret
    exact ⟨rfl, rfl⟩
end Go.Proofs.Qxb6605318a
