import Derived.Test.Qxb6605337aLawOne
import Derived.Test.Qxb6605337aCount
import Derived.Deep.DeepCutAuto
namespace Go.Proofs.Qxb6605337a
open Go.ChangeShapes Go.WideShapes Go.ChangeAt Go.RowKit
set_option linter.unusedVariables false

theorem cnt_none (I : Nat → Int) (m : Nat) : cnt (fun v => pres I v 0) m = 0 := by
  induction m with
  | zero => rfl
  | succ m ih => simp only [cnt]; rw [ih]; rfl
/-- An array of 256 bools, as it is born. -/
def falses : Array Value := Array.replicate 256 (.bool false)
theorem zero40 (w : World) : (zeroValue 40).run Try.prog w = .ok (.agg falses) w := by kernel_rfl
theorem falses_size : falses.size = 256 := Array.size_replicate
theorem falses_row (w : World) : (w.alloc (.cells falses 40)).rowIs w.heap.size 40 256 (fun _ => .bool false) := by
  have h := World.rowIs_alloc w falses 40 (fun _ => .bool false) (fun i hi => by
    rw [falses_size] at hi
    show (Array.replicate 256 (Value.bool false))[i]? = _
    rw [Array.getElem?_replicate, if_pos hi])
  rw [falses_size] at h
  exact h
/-- The two blocks that the law lays: the Auth, the array. -/
theorem two_facts {w W W2 : World} {v0 v1 v2 : Value} (h : W = w.alloc (Obj.cells #[v0, v1, v2] 29)) (h2 : W2 = W.alloc (.cells falses 40)) :
    W.cell? ⟨w.heap.size, 1, none⟩ = some v1 ∧ Below w.heap.size w W ∧ W.heap.size = w.heap.size + 1 ∧ Below (w.heap.size + 1) W W2 ∧ W2.rowIs (w.heap.size + 1) 40 256 (fun _ => .bool false) := by
  obtain ⟨_, q1, _, hb⟩ := auth_facts h
  have hs : W.heap.size = w.heap.size + 1 := by rw [h]; simp
  refine ⟨q1, hb, hs, ?_, ?_⟩
  · rw [h2, ← hs]; exact (Below.refl _ _).alloc (Nat.le_refl _) _
  · rw [h2, ← hs]; exact falses_row W

set_option maxRecDepth 20000 in
set_option maxHeartbeats 1000000 in
theorem two_walk (t s : Int) (ao : Option Addr) (n cap b off : Nat) (I : Nat → Int) (A : Nat → Option Addr) (L C : Nat → Nat) (Z : Nat → List Int) (w : World) (HI : IsKeys w ao n cap b off I A L C Z) :
    Calls Try.prog 4 #[.int .u8 t, .slice ao n cap, .int .u8 s] w fun e w' => e = .returned (.bool true) ∧ Below w.heap.size w w' := by
  go_enter Try.func4, Try.ntmps4
  go_wp2_with fail
  refine (zz14_any w t s ao n cap b off HI.heads (len_out HI.len) I A L C Z HI.keys (lens_out HI.lens)).mono ?_
  rintro e w' ⟨r1, rfl, hw⟩
  replace hw := hw.symm
  subst hw
  cases r1
  · go_wp2
    go_ret
    exact ⟨rfl, Below.refl _ _⟩
  go_wp2_with fail
  refine (fit_any w ao n cap b off HI.heads HI.len I A L C Z HI.keys HI.lens).mono ?_
  rintro e w' ⟨r2, rfl, hfit, hw⟩
  replace hw := hw.symm
  subst hw
  cases r2
  · clear hfit
    go_wp2
    go_ret
    exact ⟨rfl, Below.refl _ _⟩
  obtain ⟨hn, hl⟩ := hfit rfl
  have HL : Hid (∀ i, i < n → L i ≤ 1048576) := hl
  clear hfit hl
  go_wp2_with fail
  refine (clone_any w ao n cap b off HI.isNil HI.heads hn I A L C Z HI.keys HL.out).mono ?_
  rintro e w1 ⟨a1, c1, g1, A1, C1, rfl, H1, hb1, hz1⟩
  have HZ1 : Hid (a1 = none → c1 = 0) := hz1
  clear hz1
  go_wp2_with fail
  refine (build_any w1 t s a1 n c1 g1 0 (fun h => ⟨by have := H1.heads; by_cases h0 : n = 0; exact h0; exact absurd (h.symm.trans (this (by omega))) (by simp), HZ1.out h⟩) H1.heads hn I A1 L C1 Z H1.keys HL.out).mono ?_
  rintro e w2 ⟨a2, c2, g2, A2, C2, rfl, H2, hb2, hz2⟩
  clear hz2
  have hz40 := zero40
  go_upto_region 8 with fail
  clear hz40
  obtain ⟨W, hW⟩ : ∃ W, W = w2.alloc (Obj.cells #[Value.int IntKind.u8 t, Value.slice a2 n c2, Value.int IntKind.u8 s] 29) := ⟨_, rfl⟩
  obtain ⟨W2, hW2⟩ : ∃ W2, W2 = W.alloc (Obj.cells falses 40) := ⟨_, rfl⟩
  obtain ⟨q1, hbW, hWs, hbP, hrow⟩ := two_facts hW hW2
  rw [← hW, ← hW2]
  clear hW hW2
  have H2W := H2.below hbW (Nat.le_refl _)
  have H1W := (H1.below hb2 (Nat.le_refl _)).below hbW (Nat.le_refl _)
  have hbA : Below w.heap.size w W := hb1.trans ((hb2.trans (hbW.mono hb2.size)).mono hb1.size)
  have hle : w.heap.size ≤ w2.heap.size + 1 := by have := hbA.size; omega
  have HWS : Hid (W.heap.size = w2.heap.size + 1) := hWs
  clear H1 H2 hb1 hb2 hbW HZ1 hWs
  go_wp2
  go_loopw [9, 10, 11] (fun sd si _x wr => ∃ k : Nat, ∃ f, k ≤ n ∧ si = .int .i64 k ∧ sd = .int .i64 ((cnt (fun v => pres I v k) 256 : Nat) : Int) ∧ Below (w2.heap.size + 1) W wr ∧ wr.rowIs (w2.heap.size + 1) 40 256 f ∧ Hid (∀ v, v < 256 → f v = .bool (pres I v k))) (fun _ si _ _ => n - (intOf si).toNat)
  case atStart => exact ⟨0, _, by omega, rfl, by rw [cnt_none]; rfl, hbP, hrow, fun v hv => rfl⟩
  case round =>
    obtain ⟨k, f, hk, rfl, rfl, hbr, hr, H⟩ := hrel
    by_cases hlt : k < n
    · obtain rfl := H1W.heads (by omega)
      have hidW := H1W.keys.id k hlt
      have hbd := H1W.keys.bd k hlt
      rw [Nat.zero_add] at hidW
      have hid : wr.cell? ⟨g1, k * 2, none⟩ = some (.int .u8 (I k)) := by rw [hbr.cell (by have := World.block_lt_of_cell? _ _ hidW; have := HWS.out; simp at *; omega)]; exact hidW
      obtain ⟨c, hcI⟩ := Int.eq_ofNat_of_zero_le hbd.1
      have hc : c < 256 := by omega
      rw [hcI] at hid
      have HCI : Hid (I k = (c : Int)) := hcI
      have hcell := hr.cell hc
      have hfr := hr.frozen c
      rw [H.out c hc] at hcell
      have hcn := cnt_le (fun v => pres I v k) 256
      clear hcI hbd hidW
      obtain ⟨d, hd⟩ : ∃ d, d = cnt (fun v => pres I v k) 256 := ⟨_, rfl⟩
      rw [← hd] at hcn ⊢
      have HDD : Hid (d = cnt (fun v => pres I v k) 256) := hd
      clear hd
      cases hp : pres I c k with
      | true =>
        rw [hp] at hcell
        have hold := cnt_old HCI.out hp
        have HO : Hid (∀ v, pres I v (k + 1) = pres I v k) := hold
        clear hp hold
        go_wp2
        go_roundw
        case rel => exact ⟨k + 1, f, by omega, by go_num, by rw [HDD.out, cnt_congr (fun v _ => (HO.out v).symm)], hbr, hr, fun v hv => by rw [HO.out]; exact H.out v hv⟩
        case measure => simp [intOf]; omega
      | false =>
        rw [hp] at hcell
        have hnew := pres_new (I := I) (k := k) HCI.out
        have HO : Hid (∀ v, pres I v (k + 1) = (if v = c then true else pres I v k)) := hnew
        have HCn : Hid (cnt (fun v => pres I v (k + 1)) 256 = d + 1) := by
          unfold Hid
          rw [HDD.out]
          exact cnt_set hc hp (by rw [hnew, if_pos rfl]) (fun u _ hu => by rw [hnew, if_neg hu])
        clear hp hnew
        go_wp2
        go_roundw
        case rel =>
          refine ⟨k + 1, _, by omega, by go_num, by rw [HCn.out]; go_num, hbr.setCell (by simp) _, hr.set c (.bool true), ?_⟩
          intro v hv
          rw [HO.out]
          by_cases e : v = c
          · simp [e]
          · simp [e]; exact H.out v hv
        case measure => simp [intOf]; omega
    · obtain rfl : k = n := by omega
      clear hbP hrow
      have hsW := HWS.out
      have K2 := H2W.keys.below hbr (by omega)
      have hh := H2W.heads
      have q1' : wr.cell? ⟨w2.heap.size, 1, none⟩ = some (.slice a2 k c2) := by rw [hbr.cell (by simp)]; exact q1
      have hbF : Below w.heap.size w wr := hbA.trans (hbr.mono hle)
      have hcn := cnt_le (fun v => pres I v k) 256
      obtain ⟨d, hd⟩ : ∃ d, d = cnt (fun v => pres I v k) 256 := ⟨_, rfl⟩
      rw [← hd] at hcn ⊢
      have HDD : Hid (d = cnt (fun v => pres I v k) 256) := hd
      clear hd H1W H2W hbr hbA q1 hsW HI HL HWS hle
      go_wp2
      go_loop [12, 13, 14] (fun sf sv _p => ∃ v : Nat, v ≤ 256 ∧ sv = .int .i64 v ∧ sf = .int .i64 ((cnt (fun u => pres I u k) v : Nat) : Int)) (fun _ sv _ => 256 - (intOf sv).toNat)
      case atStart => exact ⟨0, by omega, rfl, rfl⟩
      case round =>
        obtain ⟨v, hv, rfl, rfl⟩ := hrel
        by_cases hlt2 : v < 256
        · obtain ⟨r, hr'⟩ := firstFrom_exists I (v : Int) k
          have KK := zzkey_any wr w2.heap.size g2 k c2 a2 hh hn I A2 L C2 Z K2 (v : Int) q1' r hr'
          have hcell := hr.cell hlt2
          rw [H.out v hlt2] at hcell
          have hcn2 := cnt_le (fun u => pres I u k) v
          have HS : Hid (cnt (fun u => pres I u k) (v + 1) = cnt (fun u => pres I u k) v + if pres I v k then 1 else 0) := rfl
          obtain ⟨q, hq⟩ : ∃ q, q = cnt (fun u => pres I u k) v := ⟨_, rfl⟩
          rw [← hq] at hcn2 HS ⊢
          clear hq
          cases r with
          | none =>
            have hp : pres I v k = false := by
              cases hp : pres I v k with
              | false => rfl
              | true => obtain ⟨i, h1, h2⟩ := pres_true.1 hp; exact absurd h2 (hr' i (Nat.zero_le _) h1)
            rw [hp] at hcell HS
            have HS' : Hid (cnt (fun u => pres I u k) (v + 1) = q) := by have := HS.out; simp at this; exact this
            simp only [keyV] at KK
            clear hp HS hr'
            go_wp2_with (go_at_call 11; refine KK.mono ?_; rintro e w' ⟨rfl, rfl⟩)
            go_round
            case rel => exact ⟨v + 1, by omega, by go_num, by rw [HS'.out]⟩
            case measure => simp [intOf]; omega
          | some i =>
            obtain ⟨_, hi1, hi2, _⟩ := hr'
            have hp : pres I v k = true := pres_true.2 ⟨i, hi1, hi2⟩
            obtain rfl := hh (by omega)
            have hid := K2.id i hi1
            rw [Nat.zero_add, hi2] at hid
            rw [hp] at hcell HS
            have HS' : Hid (cnt (fun u => pres I u k) (v + 1) = q + 1) := by have := HS.out; simp at this; exact this
            simp only [keyV] at KK
            clear hp HS hi2
            go_wp2_with (go_at_call 11; refine KK.mono ?_; rintro e w' ⟨rfl, rfl⟩)
            go_round
            case rel => exact ⟨v + 1, by omega, by go_num, by rw [HS'.out]; go_num⟩
            case measure => simp [intOf]; omega
        · obtain rfl : v = 256 := by omega
          rw [← HDD.out]
          go_wp2
          go_ret
          exact ⟨rfl, hbF⟩
end Go.Proofs.Qxb6605337a
