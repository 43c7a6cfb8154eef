/- FnDroppedEachEndCaseTable: the main walk, a theorem for each way that the three forms may be given. -/
import Derived.Test.Qxb6600327aDrop
namespace Go.Proofs.Qxb6600327a
open Go.RowKit

theorem keepD {W w' : World} {D : Nat} {x : Obj} (hb : Below W.heap.size W w') (h : W.heap[D]? = some x) : w'.heap[D]? = some x :=
  (hb.block D (Array.getElem?_eq_some_iff.1 h).1).trans h

theorem one_cell {w : World} {g e : Nat} {u : Value} (h : w.heap[g]? = some (.cells #[u] e (0, 0))) : w.cell? ⟨g, 0, none⟩ = some u := by
  rw [cell_of_row w g 0 _ e (0, 0) h]; rfl

theorem three_cells {w : World} {g e : Nat} {u v t : Value} (h : w.heap[g]? = some (.cells #[u, v, t] e (0, 0))) :
    w.cell? ⟨g, 0, none⟩ = some u ∧ w.cell? ⟨g, 1, none⟩ = some v ∧ w.cell? ⟨g, 2, none⟩ = some t ∧ w.frozen? ⟨g, 0, none⟩ = false ∧ w.frozen? ⟨g, 1, none⟩ = false ∧ w.frozen? ⟨g, 2, none⟩ = false :=
  ⟨by rw [cell_of_row w g 0 _ e (0, 0) h]; rfl, by rw [cell_of_row w g 1 _ e (0, 0) h]; rfl, by rw [cell_of_row w g 2 _ e (0, 0) h]; rfl, frozen_of_row w g 0 _ e h, frozen_of_row w g 1 _ e h, frozen_of_row w g 2 _ e h⟩

theorem allocs1 (w : World) (o1 : Obj) : (w.alloc o1).heap[w.heap.size]? = some o1 ∧ (w.alloc o1).heap.size = w.heap.size + 1 ∧ Below w.heap.size w (w.alloc o1) :=
  ⟨heap_alloc_new w o1, by simp, (Below.refl _ _).alloc (Nat.le_refl _) _⟩

theorem allocs2 (w : World) (o1 o2 : Obj) : ((w.alloc o1).alloc o2).heap[w.heap.size]? = some o1 ∧ ((w.alloc o1).alloc o2).heap[w.heap.size + 1]? = some o2 ∧ ((w.alloc o1).alloc o2).heap.size = w.heap.size + 2 ∧ Below w.heap.size w ((w.alloc o1).alloc o2) := by
  refine ⟨?_, ?_, by simp, ((Below.refl _ _).alloc (Nat.le_refl _) _).alloc (by simp) _⟩
  · rw [Below.heap_alloc _ _ _ (by simp), heap_alloc_new]
  · have h := heap_alloc_new (w.alloc o1) o2
    have e : (w.alloc o1).heap.size = w.heap.size + 1 := by simp
    rwa [e] at h

theorem allocs3 (w : World) (o1 o2 o3 : Obj) : (((w.alloc o1).alloc o2).alloc o3).heap[w.heap.size]? = some o1 ∧ (((w.alloc o1).alloc o2).alloc o3).heap[w.heap.size + 1]? = some o2 ∧ (((w.alloc o1).alloc o2).alloc o3).heap[w.heap.size + 1 + 1]? = some o3 ∧ (((w.alloc o1).alloc o2).alloc o3).heap.size = w.heap.size + 3 ∧ Below w.heap.size w (((w.alloc o1).alloc o2).alloc o3) := by
  obtain ⟨h1, h2, h3, h4⟩ := allocs2 w o1 o2
  refine ⟨?_, ?_, ?_, by simp, h4.alloc (by simp; omega) _⟩
  · rw [Below.heap_alloc _ _ _ (by rw [h3]; omega)]; exact h1
  · rw [Below.heap_alloc _ _ _ (by rw [h3]; omega)]; exact h2
  · have h := heap_alloc_new ((w.alloc o1).alloc o2) o3
    rwa [h3] at h

theorem StepsAt.set {w : World} {g m T : Nat} {zf ze : Nat → Int} (h : StepsAt w g m zf ze) (x : Value) (hT : w.heap[T]? = some (.cells #[.pointer none, .pointer none, .slice none 0 0] 32 (0, 0))) : StepsAt (w.setCell ⟨T, 2, none⟩ x) g m zf ze := fun j hj => by
  obtain ⟨p, q, h1, h2, h3, h4⟩ := h j hj
  have hg : T ≠ g := fun e => by
    subst e
    rw [cell_of_row w T _ _ 32 (0, 0) hT] at h1
    match j, h1 with
    | 0, h1 => simp at h1
    | 1, h1 => simp at h1
    | j + 2, h1 => rw [show (j + 2) * 2 = j * 2 + 1 + 3 by omega] at h1; simp at h1
  have hp : T ≠ p := fun e => by
    subst e
    rw [cell_of_row w T _ _ 32 (0, 0) hT] at h3
    simp at h3
  have hq : T ≠ q := fun e => by
    subst e
    rw [cell_of_row w T _ _ 32 (0, 0) hT] at h4
    simp at h4
  refine ⟨p, q, ?_, ?_, ?_, ?_⟩
  · rw [World.cell?_setCell_other _ _ _ _ (fun e => hg (congrArg Addr.block e))]; exact h1
  · rw [World.cell?_setCell_other _ _ _ _ (fun e => hg (congrArg Addr.block e))]; exact h2
  · rw [World.cell?_setCell_other _ _ _ _ (fun e => hp (congrArg Addr.block e))]; exact h3
  · rw [World.cell?_setCell_other _ _ _ _ (fun e => hq (congrArg Addr.block e))]; exact h4

set_option maxRecDepth 100000 in
set_option maxHeartbeats 2000000 in
theorem dropTTT (x1 x3 x8 : Int) {a : Option Addr} {n : Nat} {f : Nat → ByteArray} (cap : Nat) {a6 a7 : Option Addr} (n6 c6 n7 c7 : Nat) {zf ze : Nat → Int} (w : World) (hn : n ≤ maxLen) (hn6 : n6 ≤ maxLen) (hn7 : n7 ≤ maxLen) (hf : ∀ i, i < n → (f i).size ≤ maxLen) (hr : ReadsS w a n f) (hr6 : Reads w a6 n6 zf) (hr7 : Reads w a7 n7 ze) :
    Calls Try.prog 3 #[.bool true, .int .i64 x1, .bool true, .int .i64 x3, .slice a n cap, .bool true, .slice a6 n6 c6, .slice a7 n7 c7, .int .i64 x8] w fun e w' => e = .returned (.bool true) ∧ Below w.heap.size w w' := by
  have hn' := hn
  have hn6' := hn6
  have hn7' := hn7
  unfold maxLen at hn' hn6' hn7'
  go_enter Try.func3, Try.ntmps3
  go_wp2_with fail
  refine (bytes9_any true true true x1 x3 x8 cap a6 a7 n6 c6 n7 c7 w hn hn6 hn7 hf hr).mono ?_
  rintro e w1 ⟨r, rfl, hw⟩
  obtain rfl := hw
  clear hn hn6 hn7
  cases r
  · clear hf hr hr6 hr7
    go_wp2
    go_ret
    exact ⟨rfl, Below.refl _ _⟩
  by_cases hbig : 16384 < n ∨ 16384 < n6 ∨ 16384 < n7
  · clear hf hr hr6 hr7
    by_cases b1 : 16384 < n
    · clear hbig
      go_wp2
      go_ret
      exact ⟨rfl, Below.refl _ _⟩
    · by_cases b2 : 16384 < n6
      · clear hbig
        go_wp2
        go_ret
        exact ⟨rfl, Below.refl _ _⟩
      · have b3 : 16384 < n7 := by omega
        clear hbig
        go_wp2
        go_ret
        exact ⟨rfl, Below.refl _ _⟩
  have b1 : n ≤ 16384 := by omega
  have b2 : n6 ≤ 16384 := by omega
  have b3 : n7 ≤ 16384 := by omega
  clear hbig hn' hn6' hn7'
  go_wp2_with fail
  refine (strBytes_any cap w1 (by omega) hf hr).mono ?_
  rintro e w2 ⟨v, hv0, hv1, rfl, hw⟩
  obtain rfl := hw
  by_cases hv : 1048576 < v + 8 * (n6 : Int) + 8 * (n7 : Int)
  · clear hf hr hr6 hr7
    go_wp2
    go_ret
    exact ⟨rfl, Below.refl _ _⟩
  have hv' : v + 8 * (n6 : Int) + 8 * (n7 : Int) ≤ 1048576 := by omega
  clear hv hf
  go_wp2_with fail
  refine (copyStr_any cap w2 (by omega) hr).mono ?_
  rintro e w3 ⟨a3, rfl, hb3⟩
  have g6 := hr6.below hb3
  have g7 := hr7.below hb3
  have HB3 : Hid (Below w2.heap.size w2 w3) := hb3
  clear hr hr6 hr7 hb3
  go_wp2_with fail
  refine (copyInts_any c6 w3 (by omega) g6).mono ?_
  rintro e w4 ⟨a4, rfl, k6, hb4⟩
  have k7 := g7.below hb4
  have HB4 : Hid (Below w2.heap.size w2 w4) := HB3.out.trans (hb4.mono HB3.out.size)
  clear g6 g7 hb4 HB3
  go_wp2_with fail
  refine (copyInts_any c7 w4 (by omega) k7).mono ?_
  rintro e w5 ⟨a5, rfl, j7, hb5⟩
  have j6 := k6.below hb5
  have HB : Hid (Below w2.heap.size w2 w5) := HB4.out.trans (hb5.mono HB4.out.size)
  clear k6 k7 hb5 HB4
  go_wp2_with fail
  refine (intPtr_any x1 _).mono ?_
  rintro e w6 ⟨rfl, rfl⟩
  go_wp2_with fail
  refine (intPtr_any x3 _).mono ?_
  rintro e w6 ⟨rfl, rfl⟩
  go_wp2_with fail
  obtain ⟨W, hW⟩ : ∃ W, W = (((w5.alloc (.cells #[.pointer (some ⟨w5.heap.size + 1, 0, none⟩), .pointer (some ⟨w5.heap.size + 1 + 1, 0, none⟩), .slice none 0 0] 32)).alloc (.cells #[.int .i64 x1] 3)).alloc (.cells #[.int .i64 x3] 3)) := ⟨_, rfl⟩
  obtain ⟨f0, f1, f2, fs, fb⟩ := allocs3 w5 (.cells #[.pointer (some ⟨w5.heap.size + 1, 0, none⟩), .pointer (some ⟨w5.heap.size + 1 + 1, 0, none⟩), .slice none 0 0] 32) (.cells #[.int .i64 x1] 3) (.cells #[.int .i64 x3] 3)
  rw [← hW] at f0 f1 f2 fs fb ⊢
  clear hW
  refine (steps_any n6 n7 n6 n7 W b2 b3 (j6.below fb) (j7.below fb)).mono ?_
  rintro e w7 ⟨g, rfl, hst, hb7⟩
  have HB7 : Hid (Below w2.heap.size w2 w7) := HB.out.trans ((fb.trans (hb7.mono (by omega))).mono HB.out.size)
  have hs7 := hb7.size
  rw [fs] at hs7
  obtain ⟨t0, t1, t2, t3, t4, t5⟩ := three_cells (keepD hb7 f0)
  have u1 := one_cell (keepD hb7 f1)
  have u2 := one_cell (keepD hb7 f2)
  have z0 : w5.heap.size < w7.heap.size := by omega
  have hwT : w2.heap.size ≤ w5.heap.size := HB.out.size
  have z1 : w5.heap.size + 1 < w7.heap.size := by omega
  have z2 : w5.heap.size + 1 + 1 < w7.heap.size := by omega
  clear hst hb7 f0 f1 f2 fs fb j6 j7 hs7
  go_wp2
  go_ret
  exact ⟨by simp, ((HB7.out.setCell (by simp; omega) _).alloc (by have := HB7.out.size; simp; omega) _).alloc (by have := HB7.out.size; simp; omega) _⟩

set_option maxRecDepth 100000 in
set_option maxHeartbeats 2000000 in
theorem dropTFT (x1 x3 x8 : Int) {a : Option Addr} {n : Nat} {f : Nat → ByteArray} (cap : Nat) {a6 a7 : Option Addr} (n6 c6 n7 c7 : Nat) {zf ze : Nat → Int} (w : World) (hn : n ≤ maxLen) (hn6 : n6 ≤ maxLen) (hn7 : n7 ≤ maxLen) (hf : ∀ i, i < n → (f i).size ≤ maxLen) (hr : ReadsS w a n f) (hr6 : Reads w a6 n6 zf) (hr7 : Reads w a7 n7 ze) :
    Calls Try.prog 3 #[.bool true, .int .i64 x1, .bool false, .int .i64 x3, .slice a n cap, .bool true, .slice a6 n6 c6, .slice a7 n7 c7, .int .i64 x8] w fun e w' => e = .returned (.bool true) ∧ Below w.heap.size w w' := by
  have hn' := hn
  have hn6' := hn6
  have hn7' := hn7
  unfold maxLen at hn' hn6' hn7'
  go_enter Try.func3, Try.ntmps3
  go_wp2_with fail
  refine (bytes9_any true false true x1 x3 x8 cap a6 a7 n6 c6 n7 c7 w hn hn6 hn7 hf hr).mono ?_
  rintro e w1 ⟨r, rfl, hw⟩
  obtain rfl := hw
  clear hn hn6 hn7
  cases r
  · clear hf hr hr6 hr7
    go_wp2
    go_ret
    exact ⟨rfl, Below.refl _ _⟩
  by_cases hbig : 16384 < n ∨ 16384 < n6 ∨ 16384 < n7
  · clear hf hr hr6 hr7
    by_cases b1 : 16384 < n
    · clear hbig
      go_wp2
      go_ret
      exact ⟨rfl, Below.refl _ _⟩
    · by_cases b2 : 16384 < n6
      · clear hbig
        go_wp2
        go_ret
        exact ⟨rfl, Below.refl _ _⟩
      · have b3 : 16384 < n7 := by omega
        clear hbig
        go_wp2
        go_ret
        exact ⟨rfl, Below.refl _ _⟩
  have b1 : n ≤ 16384 := by omega
  have b2 : n6 ≤ 16384 := by omega
  have b3 : n7 ≤ 16384 := by omega
  clear hbig hn' hn6' hn7'
  go_wp2_with fail
  refine (strBytes_any cap w1 (by omega) hf hr).mono ?_
  rintro e w2 ⟨v, hv0, hv1, rfl, hw⟩
  obtain rfl := hw
  by_cases hv : 1048576 < v + 8 * (n6 : Int) + 8 * (n7 : Int)
  · clear hf hr hr6 hr7
    go_wp2
    go_ret
    exact ⟨rfl, Below.refl _ _⟩
  have hv' : v + 8 * (n6 : Int) + 8 * (n7 : Int) ≤ 1048576 := by omega
  clear hv hf
  go_wp2_with fail
  refine (copyStr_any cap w2 (by omega) hr).mono ?_
  rintro e w3 ⟨a3, rfl, hb3⟩
  have g6 := hr6.below hb3
  have g7 := hr7.below hb3
  have HB3 : Hid (Below w2.heap.size w2 w3) := hb3
  clear hr hr6 hr7 hb3
  go_wp2_with fail
  refine (copyInts_any c6 w3 (by omega) g6).mono ?_
  rintro e w4 ⟨a4, rfl, k6, hb4⟩
  have k7 := g7.below hb4
  have HB4 : Hid (Below w2.heap.size w2 w4) := HB3.out.trans (hb4.mono HB3.out.size)
  clear g6 g7 hb4 HB3
  go_wp2_with fail
  refine (copyInts_any c7 w4 (by omega) k7).mono ?_
  rintro e w5 ⟨a5, rfl, j7, hb5⟩
  have j6 := k6.below hb5
  have HB : Hid (Below w2.heap.size w2 w5) := HB4.out.trans (hb5.mono HB4.out.size)
  clear k6 k7 hb5 HB4
  go_wp2_with fail
  refine (intPtr_any x1 _).mono ?_
  rintro e w6 ⟨rfl, rfl⟩
  go_wp2_with fail
  obtain ⟨W, hW⟩ : ∃ W, W = ((w5.alloc (.cells #[.pointer (some ⟨w5.heap.size + 1, 0, none⟩), .pointer none, .slice none 0 0] 32)).alloc (.cells #[.int .i64 x1] 3)) := ⟨_, rfl⟩
  obtain ⟨f0, f1, fs, fb⟩ := allocs2 w5 (.cells #[.pointer (some ⟨w5.heap.size + 1, 0, none⟩), .pointer none, .slice none 0 0] 32) (.cells #[.int .i64 x1] 3)
  rw [← hW] at f0 f1 fs fb ⊢
  clear hW
  refine (steps_any n6 n7 n6 n7 W b2 b3 (j6.below fb) (j7.below fb)).mono ?_
  rintro e w7 ⟨g, rfl, hst, hb7⟩
  have HB7 : Hid (Below w2.heap.size w2 w7) := HB.out.trans ((fb.trans (hb7.mono (by omega))).mono HB.out.size)
  have hs7 := hb7.size
  rw [fs] at hs7
  obtain ⟨t0, t1, t2, t3, t4, t5⟩ := three_cells (keepD hb7 f0)
  have u1 := one_cell (keepD hb7 f1)
  have z0 : w5.heap.size < w7.heap.size := by omega
  have hwT : w2.heap.size ≤ w5.heap.size := HB.out.size
  have z1 : w5.heap.size + 1 < w7.heap.size := by omega
  clear hst hb7 f0 f1 fs fb j6 j7 hs7
  go_wp2
  go_ret
  exact ⟨by simp, ((HB7.out.setCell (by simp; omega) _).alloc (by have := HB7.out.size; simp; omega) _).alloc (by have := HB7.out.size; simp; omega) _⟩

set_option maxRecDepth 100000 in
set_option maxHeartbeats 2000000 in
theorem dropFTT (x1 x3 x8 : Int) {a : Option Addr} {n : Nat} {f : Nat → ByteArray} (cap : Nat) {a6 a7 : Option Addr} (n6 c6 n7 c7 : Nat) {zf ze : Nat → Int} (w : World) (hn : n ≤ maxLen) (hn6 : n6 ≤ maxLen) (hn7 : n7 ≤ maxLen) (hf : ∀ i, i < n → (f i).size ≤ maxLen) (hr : ReadsS w a n f) (hr6 : Reads w a6 n6 zf) (hr7 : Reads w a7 n7 ze) :
    Calls Try.prog 3 #[.bool false, .int .i64 x1, .bool true, .int .i64 x3, .slice a n cap, .bool true, .slice a6 n6 c6, .slice a7 n7 c7, .int .i64 x8] w fun e w' => e = .returned (.bool true) ∧ Below w.heap.size w w' := by
  have hn' := hn
  have hn6' := hn6
  have hn7' := hn7
  unfold maxLen at hn' hn6' hn7'
  go_enter Try.func3, Try.ntmps3
  go_wp2_with fail
  refine (bytes9_any false true true x1 x3 x8 cap a6 a7 n6 c6 n7 c7 w hn hn6 hn7 hf hr).mono ?_
  rintro e w1 ⟨r, rfl, hw⟩
  obtain rfl := hw
  clear hn hn6 hn7
  cases r
  · clear hf hr hr6 hr7
    go_wp2
    go_ret
    exact ⟨rfl, Below.refl _ _⟩
  by_cases hbig : 16384 < n ∨ 16384 < n6 ∨ 16384 < n7
  · clear hf hr hr6 hr7
    by_cases b1 : 16384 < n
    · clear hbig
      go_wp2
      go_ret
      exact ⟨rfl, Below.refl _ _⟩
    · by_cases b2 : 16384 < n6
      · clear hbig
        go_wp2
        go_ret
        exact ⟨rfl, Below.refl _ _⟩
      · have b3 : 16384 < n7 := by omega
        clear hbig
        go_wp2
        go_ret
        exact ⟨rfl, Below.refl _ _⟩
  have b1 : n ≤ 16384 := by omega
  have b2 : n6 ≤ 16384 := by omega
  have b3 : n7 ≤ 16384 := by omega
  clear hbig hn' hn6' hn7'
  go_wp2_with fail
  refine (strBytes_any cap w1 (by omega) hf hr).mono ?_
  rintro e w2 ⟨v, hv0, hv1, rfl, hw⟩
  obtain rfl := hw
  by_cases hv : 1048576 < v + 8 * (n6 : Int) + 8 * (n7 : Int)
  · clear hf hr hr6 hr7
    go_wp2
    go_ret
    exact ⟨rfl, Below.refl _ _⟩
  have hv' : v + 8 * (n6 : Int) + 8 * (n7 : Int) ≤ 1048576 := by omega
  clear hv hf
  by_cases hp : x3 < 0 ∨ 100 < x3
  · clear hr hr6 hr7
    by_cases p1 : x3 < 0
    · clear hp
      go_wp2
      go_ret
      exact ⟨rfl, Below.refl _ _⟩
    · have p2 : 100 < x3 := by omega
      clear hp
      go_wp2
      go_ret
      exact ⟨rfl, Below.refl _ _⟩
  have p1 : 0 ≤ x3 := by omega
  have p2 : x3 ≤ 100 := by omega
  clear hp
  have m1 : 0 ≤ (n : Int) * x3 := Int.mul_nonneg (by omega) p1
  have m2 : (n : Int) * x3 ≤ 16384 * 100 := Int.mul_le_mul (by omega) p2 (by omega) (by omega)
  go_wp2_with fail
  refine (copyStr_any cap w2 (by omega) hr).mono ?_
  rintro e w3 ⟨a3, rfl, hb3⟩
  have g6 := hr6.below hb3
  have g7 := hr7.below hb3
  have HB3 : Hid (Below w2.heap.size w2 w3) := hb3
  clear hr hr6 hr7 hb3
  go_wp2_with fail
  refine (copyInts_any c6 w3 (by omega) g6).mono ?_
  rintro e w4 ⟨a4, rfl, k6, hb4⟩
  have k7 := g7.below hb4
  have HB4 : Hid (Below w2.heap.size w2 w4) := HB3.out.trans (hb4.mono HB3.out.size)
  clear g6 g7 hb4 HB3
  go_wp2_with fail
  refine (copyInts_any c7 w4 (by omega) k7).mono ?_
  rintro e w5 ⟨a5, rfl, j7, hb5⟩
  have j6 := k6.below hb5
  have HB : Hid (Below w2.heap.size w2 w5) := HB4.out.trans (hb5.mono HB4.out.size)
  clear k6 k7 hb5 HB4
  go_wp2_with fail
  refine (intPtr_any x3 _).mono ?_
  rintro e w6 ⟨rfl, rfl⟩
  go_wp2_with fail
  obtain ⟨W, hW⟩ : ∃ W, W = ((w5.alloc (.cells #[.pointer none, .pointer (some ⟨w5.heap.size + 1, 0, none⟩), .slice none 0 0] 32)).alloc (.cells #[.int .i64 x3] 3)) := ⟨_, rfl⟩
  obtain ⟨f0, f1, fs, fb⟩ := allocs2 w5 (.cells #[.pointer none, .pointer (some ⟨w5.heap.size + 1, 0, none⟩), .slice none 0 0] 32) (.cells #[.int .i64 x3] 3)
  rw [← hW] at f0 f1 fs fb ⊢
  clear hW
  refine (steps_any n6 n7 n6 n7 W b2 b3 (j6.below fb) (j7.below fb)).mono ?_
  rintro e w7 ⟨g, rfl, hst, hb7⟩
  have HB7 : Hid (Below w2.heap.size w2 w7) := HB.out.trans ((fb.trans (hb7.mono (by omega))).mono HB.out.size)
  have hs7 := hb7.size
  rw [fs] at hs7
  obtain ⟨t0, t1, t2, t3, t4, t5⟩ := three_cells (keepD hb7 f0)
  have u1 := one_cell (keepD hb7 f1)
  have z0 : w5.heap.size < w7.heap.size := by omega
  have hwT : w2.heap.size ≤ w5.heap.size := HB.out.size
  have z1 : w5.heap.size + 1 < w7.heap.size := by omega
  clear hst hb7 f0 f1 fs fb j6 j7 hs7
  go_wp2
  go_quiet (fail)
  go_wp2
  go_ret
  exact ⟨ret_bool (by simp; omega), below_drewN (((HB7.out.setCell (by simp; omega) _).alloc (by have := HB7.out.size; simp; omega) _).alloc (by have := HB7.out.size; simp; omega) _) _⟩

end Go.Proofs.Qxb6600327a
