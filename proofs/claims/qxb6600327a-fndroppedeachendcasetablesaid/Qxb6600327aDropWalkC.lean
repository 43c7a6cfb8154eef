/- FnDroppedEachEndCaseTable: the main walk, a theorem for each way that the three forms may be given. -/
import Derived.Test.Qxb6600327aDropWalkB
namespace Go.Proofs.Qxb6600327a
open Go.RowKit

set_option maxRecDepth 100000 in
set_option maxHeartbeats 2000000 in
theorem dropFFT (x1 x3 x8 : Int) {a : Option Addr} {n : Nat} {f : Nat → ByteArray} (cap : Nat) {a6 a7 : Option Addr} (n6 c6 n7 c7 : Nat) {zf ze : Nat → Int} (w : World) (hn : n ≤ maxLen) (hn6 : n6 ≤ maxLen) (hn7 : n7 ≤ maxLen) (hf : ∀ i, i < n → (f i).size ≤ maxLen) (hr : ReadsS w a n f) (hr6 : Reads w a6 n6 zf) (hr7 : Reads w a7 n7 ze) :
    Calls Try.prog 3 #[.bool false, .int .i64 x1, .bool false, .int .i64 x3, .slice a n cap, .bool true, .slice a6 n6 c6, .slice a7 n7 c7, .int .i64 x8] w fun e w' => e = .returned (.bool true) ∧ Below w.heap.size w w' := by
  have hn' := hn
  have hn6' := hn6
  have hn7' := hn7
  unfold maxLen at hn' hn6' hn7'
  go_enter Try.func3, Try.ntmps3
  go_wp2_with fail
  refine (bytes9_any false false true x1 x3 x8 cap a6 a7 n6 c6 n7 c7 w hn hn6 hn7 hf hr).mono ?_
  rintro e w1 ⟨r, rfl, hw⟩
  obtain rfl := hw
  clear hn hn6 hn7
  cases r
  · clear hf hr hr6 hr7
    go_wp2
    go_ret
    exact ⟨rfl, Below.refl _ _⟩
  by_cases hbig : 16384 < n ∨ 16384 < n6 ∨ 16384 < n7
  · clear hf hr hr6 hr7
    by_cases b1 : 16384 < n
    · clear hbig
      go_wp2
      go_ret
      exact ⟨rfl, Below.refl _ _⟩
    · by_cases b2 : 16384 < n6
      · clear hbig
        go_wp2
        go_ret
        exact ⟨rfl, Below.refl _ _⟩
      · have b3 : 16384 < n7 := by omega
        clear hbig
        go_wp2
        go_ret
        exact ⟨rfl, Below.refl _ _⟩
  have b1 : n ≤ 16384 := by omega
  have b2 : n6 ≤ 16384 := by omega
  have b3 : n7 ≤ 16384 := by omega
  clear hbig hn' hn6' hn7'
  go_wp2_with fail
  refine (strBytes_any cap w1 (by omega) hf hr).mono ?_
  rintro e w2 ⟨v, hv0, hv1, rfl, hw⟩
  obtain rfl := hw
  by_cases hv : 1048576 < v + 8 * (n6 : Int) + 8 * (n7 : Int)
  · clear hf hr hr6 hr7
    go_wp2
    go_ret
    exact ⟨rfl, Below.refl _ _⟩
  have hv' : v + 8 * (n6 : Int) + 8 * (n7 : Int) ≤ 1048576 := by omega
  clear hv hf
  by_cases hne : n6 = n7
  · subst hne
    have hneb : ((n6 : Int) != (n6 : Int)) = false := by simp
    go_wp2_with fail
    refine (nondec_any c6 w2 (by omega) hr6).mono ?_
    rintro e w1 ⟨r, rfl, hnd, m, rfl⟩
    cases r with
    | false =>
      clear hnd hr hr6 hr7
      go_wp2
      go_ret
      exact ⟨rfl, below_N _ _⟩
    | true =>
    have HND : Hid (NonDec n6 zf) := hnd rfl
    clear hnd
    have hr := hr.drewN m
    have hr6 := hr6.drewN m
    have hr7 := hr7.drewN m
    have hb0 : Hid (Below w2.heap.size w2 (w2.drewN m)) := below_N w2 m
    obtain ⟨w2', hw2'⟩ : ∃ w2', w2' = w2.drewN m := ⟨_, rfl⟩
    rw [← hw2'] at hr hr6 hr7 hb0 ⊢
    clear hw2'
    go_wp2_with fail
    refine (copyStr_any cap w2' (by omega) hr).mono ?_
    rintro e w3 ⟨a3, rfl, hb3⟩
    have g6 := hr6.below hb3
    have g7 := hr7.below hb3
    have HB3 : Hid (Below w2.heap.size w2 w3) := hb0.out.trans (hb3.mono hb0.out.size)
    clear hr hr6 hr7 hb3
    go_wp2_with fail
    refine (copyInts_any c6 w3 (by omega) g6).mono ?_
    rintro e w4 ⟨a4, rfl, k6, hb4⟩
    have k7 := g7.below hb4
    have HB4 : Hid (Below w2.heap.size w2 w4) := HB3.out.trans (hb4.mono HB3.out.size)
    clear g6 g7 hb4 HB3
    go_wp2_with fail
    refine (copyInts_any c7 w4 (by omega) k7).mono ?_
    rintro e w5 ⟨a5, rfl, j7, hb5⟩
    have j6 := k6.below hb5
    have HB : Hid (Below w2.heap.size w2 w5) := HB4.out.trans (hb5.mono HB4.out.size)
    clear k6 k7 hb5 HB4
    go_wp2_with fail
    obtain ⟨W, hW⟩ : ∃ W, W = (w5.alloc (.cells #[.pointer none, .pointer none, .slice none 0 0] 32)) := ⟨_, rfl⟩
    obtain ⟨f0, fs, fb⟩ := allocs1 w5 (.cells #[.pointer none, .pointer none, .slice none 0 0] 32)
    rw [← hW] at f0 fs fb ⊢
    clear hW
    refine (steps_any n6 n6 n6 n6 W b2 b3 (j6.below fb) (j7.below fb)).mono ?_
    rintro e w7 ⟨g, rfl, hst, hb7⟩
    have HB7 : Hid (Below w2.heap.size w2 w7) := HB.out.trans ((fb.trans (hb7.mono (by omega))).mono HB.out.size)
    have hs7 := hb7.size
    rw [fs] at hs7
    obtain ⟨t0, t1, t2, t3, t4, t5⟩ := three_cells (keepD hb7 f0)
    have z0 : w5.heap.size < w7.heap.size := by omega
    have hwT : w2.heap.size ≤ w5.heap.size := HB.out.size
    have hst' := StepsAt.set hst (.slice (some ⟨g, 0, none⟩) (min n6 n6) (min n6 n6)) (keepD hb7 f0)
    rw [Nat.min_self] at hst' ⊢
    have HB57 : Hid (Below w5.heap.size w5 w7) := fb.trans (hb7.mono (by omega))
    clear hst f0 fs fb hs7 hb7
    go_wp2_with fail
    obtain ⟨V, hV⟩ : ∃ V, V = w7.setCell ⟨w5.heap.size, 2, none⟩ (.slice (some ⟨g, 0, none⟩) n6 n6) := ⟨_, rfl⟩
    have hVs : V.heap.size = w7.heap.size := by rw [hV]; simp
    have hV5 : Below w5.heap.size w5 V := by rw [hV]; exact HB57.out.setCell (Nat.le_refl _) _
    have hV2 : Below w2.heap.size w2 V := by rw [hV]; exact HB7.out.setCell (by simp; omega) _
    rw [← hV] at hst' ⊢
    clear hV
    obtain ⟨f0, fs, fb⟩ := allocs1 V (.cells #[.string { data := #[] }, .slice none 0 0, .slice a3 n n, .pointer none, .pointer none, .string { data := #[] }, .int .i64 0, .int .i64 0, .pointer none, .pointer none, .slice (some ⟨g, 0, none⟩) n6 n6, .pointer none, .int .i64 0, .map none, .bool false, .pointer none, .pointer none, .slice none 0 0] 48)
    obtain ⟨X, hX⟩ : ∃ X, X = V.alloc (.cells #[.string { data := #[] }, .slice none 0 0, .slice a3 n n, .pointer none, .pointer none, .string { data := #[] }, .int .i64 0, .int .i64 0, .pointer none, .pointer none, .slice (some ⟨g, 0, none⟩) n6 n6, .pointer none, .int .i64 0, .map none, .bool false, .pointer none, .pointer none, .slice none 0 0] 48) := ⟨_, rfl⟩
    rw [← hX] at f0 fs fb ⊢
    clear hX
    rw [hVs] at f0
    refine (drop_steps w7.heap.size g n6 x8 zf ze X b2 HND.out (by rw [cell_of_row _ _ 8 _ 48 (0, 0) f0]; rfl) (by rw [cell_of_row _ _ 9 _ 48 (0, 0) f0]; rfl) (by rw [cell_of_row _ _ 10 _ 48 (0, 0) f0]; rfl) (hst'.below fb)).mono ?_
    rintro e w9 ⟨vv, hl, rfl, hb9⟩
    have hb59 : Below w5.heap.size w5 w9 := (hV5.trans (fb.mono hV5.size)).trans (hb9.mono (by have := hV5.size; omega))
    have g6 := j6.below hb59
    have g7 := j7.below hb59
    have HB9 : Hid (Below w2.heap.size w2 w9) := (hV2.trans (fb.mono hV2.size)).trans (hb9.mono (by have := hV2.size; omega))
    have HL := hide hl
    clear hl hb59 hb9 fb f0 fs hst' hV5 hV2 hVs j6 j7 HB57 t0 t1 t2 t3 t4 t5
    go_wp2_with fail
    refine (last_any n6 n6 x8 w9 (by omega) g6 g7).mono ?_
    rintro e w10 ⟨v2, hl2, rfl, hw⟩
    obtain rfl := hw
    obtain rfl : vv = v2 := HL.out.uniq hl2
    clear hl2
    go_wp2
    go_ret
    exact ⟨by simp, HB9.out⟩
  · have hneb : ((n6 : Int) != (n7 : Int)) = true := by simp; omega
    clear hr hr6 hr7
    go_wp2
    go_ret
    exact ⟨rfl, Below.refl _ _⟩

end Go.Proofs.Qxb6600327a
