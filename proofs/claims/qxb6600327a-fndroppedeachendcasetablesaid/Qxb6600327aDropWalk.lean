/- FnDroppedEachEndCaseTable: the main walk, a theorem for each way that the three forms may be given. -/
import Derived.Test.Qxb6600327aDrop
namespace Go.Proofs.Qxb6600327a
open Go.RowKit

set_option maxRecDepth 100000 in
set_option maxHeartbeats 2000000 in
theorem dropTTF (x1 x3 x8 : Int) {a : Option Addr} {n : Nat} {f : Nat → ByteArray} (cap : Nat) {a6 a7 : Option Addr} (n6 c6 n7 c7 : Nat) {zf ze : Nat → Int} (w : World) (hn : n ≤ maxLen) (hn6 : n6 ≤ maxLen) (hn7 : n7 ≤ maxLen) (hf : ∀ i, i < n → (f i).size ≤ maxLen) (hr : ReadsS w a n f) (hr6 : Reads w a6 n6 zf) (hr7 : Reads w a7 n7 ze) :
    Calls Try.prog 3 #[.bool true, .int .i64 x1, .bool true, .int .i64 x3, .slice a n cap, .bool false, .slice a6 n6 c6, .slice a7 n7 c7, .int .i64 x8] w fun e w' => e = .returned (.bool true) ∧ Below w.heap.size w w' := by
  have hn' := hn
  have hn6' := hn6
  have hn7' := hn7
  unfold maxLen at hn' hn6' hn7'
  go_enter Try.func3, Try.ntmps3
  go_wp2_with fail
  refine (bytes9_any true true false x1 x3 x8 cap a6 a7 n6 c6 n7 c7 w hn hn6 hn7 hf hr).mono ?_
  rintro e w1 ⟨r, rfl, hw⟩
  obtain rfl := hw
  clear hn hn6 hn7
  cases r
  · clear hf hr hr6 hr7
    go_wp2
    go_ret
    exact ⟨rfl, Below.refl _ _⟩
  by_cases hbig : 16384 < n ∨ 16384 < n6 ∨ 16384 < n7
  · clear hf hr hr6 hr7
    by_cases b1 : 16384 < n
    · clear hbig
      go_wp2
      go_ret
      exact ⟨rfl, Below.refl _ _⟩
    · by_cases b2 : 16384 < n6
      · clear hbig
        go_wp2
        go_ret
        exact ⟨rfl, Below.refl _ _⟩
      · have b3 : 16384 < n7 := by omega
        clear hbig
        go_wp2
        go_ret
        exact ⟨rfl, Below.refl _ _⟩
  have b1 : n ≤ 16384 := by omega
  have b2 : n6 ≤ 16384 := by omega
  have b3 : n7 ≤ 16384 := by omega
  clear hbig hn' hn6' hn7'
  go_wp2_with fail
  refine (strBytes_any cap w1 (by omega) hf hr).mono ?_
  rintro e w2 ⟨v, hv0, hv1, rfl, hw⟩
  obtain rfl := hw
  by_cases hv : 1048576 < v + 8 * (n6 : Int) + 8 * (n7 : Int)
  · clear hf hr hr6 hr7
    go_wp2
    go_ret
    exact ⟨rfl, Below.refl _ _⟩
  have hv' : v + 8 * (n6 : Int) + 8 * (n7 : Int) ≤ 1048576 := by omega
  clear hv hf
  go_wp2_with fail
  refine (copyStr_any cap w2 (by omega) hr).mono ?_
  rintro e w3 ⟨a3, rfl, hb3⟩
  have g6 := hr6.below hb3
  have g7 := hr7.below hb3
  have HB3 : Hid (Below w2.heap.size w2 w3) := hb3
  clear hr hr6 hr7 hb3
  go_wp2_with fail
  refine (copyInts_any c6 w3 (by omega) g6).mono ?_
  rintro e w4 ⟨a4, rfl, k6, hb4⟩
  have k7 := g7.below hb4
  have HB4 : Hid (Below w2.heap.size w2 w4) := HB3.out.trans (hb4.mono HB3.out.size)
  clear g6 g7 hb4 HB3
  go_wp2_with fail
  refine (copyInts_any c7 w4 (by omega) k7).mono ?_
  rintro e w5 ⟨a5, rfl, j7, hb5⟩
  have j6 := k6.below hb5
  have HB : Hid (Below w2.heap.size w2 w5) := HB4.out.trans (hb5.mono HB4.out.size)
  clear k6 k7 hb5 HB4
  clear j6 j7
  go_wp2
  go_ret
  exact ⟨by simp, (((((HB.out).alloc HB.out.size _).alloc (by have := HB.out.size; simp; omega) _).alloc (by have := HB.out.size; simp; omega) _).alloc (by have := HB.out.size; simp; omega) _).alloc (by have := HB.out.size; simp; omega) _⟩

set_option maxRecDepth 100000 in
set_option maxHeartbeats 2000000 in
theorem dropTFF (x1 x3 x8 : Int) {a : Option Addr} {n : Nat} {f : Nat → ByteArray} (cap : Nat) {a6 a7 : Option Addr} (n6 c6 n7 c7 : Nat) {zf ze : Nat → Int} (w : World) (hn : n ≤ maxLen) (hn6 : n6 ≤ maxLen) (hn7 : n7 ≤ maxLen) (hf : ∀ i, i < n → (f i).size ≤ maxLen) (hr : ReadsS w a n f) (hr6 : Reads w a6 n6 zf) (hr7 : Reads w a7 n7 ze) :
    Calls Try.prog 3 #[.bool true, .int .i64 x1, .bool false, .int .i64 x3, .slice a n cap, .bool false, .slice a6 n6 c6, .slice a7 n7 c7, .int .i64 x8] w fun e w' => e = .returned (.bool true) ∧ Below w.heap.size w w' := by
  have hn' := hn
  have hn6' := hn6
  have hn7' := hn7
  unfold maxLen at hn' hn6' hn7'
  go_enter Try.func3, Try.ntmps3
  go_wp2_with fail
  refine (bytes9_any true false false x1 x3 x8 cap a6 a7 n6 c6 n7 c7 w hn hn6 hn7 hf hr).mono ?_
  rintro e w1 ⟨r, rfl, hw⟩
  obtain rfl := hw
  clear hn hn6 hn7
  cases r
  · clear hf hr hr6 hr7
    go_wp2
    go_ret
    exact ⟨rfl, Below.refl _ _⟩
  by_cases hbig : 16384 < n ∨ 16384 < n6 ∨ 16384 < n7
  · clear hf hr hr6 hr7
    by_cases b1 : 16384 < n
    · clear hbig
      go_wp2
      go_ret
      exact ⟨rfl, Below.refl _ _⟩
    · by_cases b2 : 16384 < n6
      · clear hbig
        go_wp2
        go_ret
        exact ⟨rfl, Below.refl _ _⟩
      · have b3 : 16384 < n7 := by omega
        clear hbig
        go_wp2
        go_ret
        exact ⟨rfl, Below.refl _ _⟩
  have b1 : n ≤ 16384 := by omega
  have b2 : n6 ≤ 16384 := by omega
  have b3 : n7 ≤ 16384 := by omega
  clear hbig hn' hn6' hn7'
  go_wp2_with fail
  refine (strBytes_any cap w1 (by omega) hf hr).mono ?_
  rintro e w2 ⟨v, hv0, hv1, rfl, hw⟩
  obtain rfl := hw
  by_cases hv : 1048576 < v + 8 * (n6 : Int) + 8 * (n7 : Int)
  · clear hf hr hr6 hr7
    go_wp2
    go_ret
    exact ⟨rfl, Below.refl _ _⟩
  have hv' : v + 8 * (n6 : Int) + 8 * (n7 : Int) ≤ 1048576 := by omega
  clear hv hf
  go_wp2_with fail
  refine (copyStr_any cap w2 (by omega) hr).mono ?_
  rintro e w3 ⟨a3, rfl, hb3⟩
  have g6 := hr6.below hb3
  have g7 := hr7.below hb3
  have HB3 : Hid (Below w2.heap.size w2 w3) := hb3
  clear hr hr6 hr7 hb3
  go_wp2_with fail
  refine (copyInts_any c6 w3 (by omega) g6).mono ?_
  rintro e w4 ⟨a4, rfl, k6, hb4⟩
  have k7 := g7.below hb4
  have HB4 : Hid (Below w2.heap.size w2 w4) := HB3.out.trans (hb4.mono HB3.out.size)
  clear g6 g7 hb4 HB3
  go_wp2_with fail
  refine (copyInts_any c7 w4 (by omega) k7).mono ?_
  rintro e w5 ⟨a5, rfl, j7, hb5⟩
  have j6 := k6.below hb5
  have HB : Hid (Below w2.heap.size w2 w5) := HB4.out.trans (hb5.mono HB4.out.size)
  clear k6 k7 hb5 HB4
  clear j6 j7
  go_wp2
  go_ret
  exact ⟨by simp, ((((HB.out).alloc HB.out.size _).alloc (by have := HB.out.size; simp; omega) _).alloc (by have := HB.out.size; simp; omega) _).alloc (by have := HB.out.size; simp; omega) _⟩

set_option maxRecDepth 100000 in
set_option maxHeartbeats 2000000 in
theorem dropFFF (x1 x3 x8 : Int) {a : Option Addr} {n : Nat} {f : Nat → ByteArray} (cap : Nat) {a6 a7 : Option Addr} (n6 c6 n7 c7 : Nat) {zf ze : Nat → Int} (w : World) (hn : n ≤ maxLen) (hn6 : n6 ≤ maxLen) (hn7 : n7 ≤ maxLen) (hf : ∀ i, i < n → (f i).size ≤ maxLen) (hr : ReadsS w a n f) (hr6 : Reads w a6 n6 zf) (hr7 : Reads w a7 n7 ze) :
    Calls Try.prog 3 #[.bool false, .int .i64 x1, .bool false, .int .i64 x3, .slice a n cap, .bool false, .slice a6 n6 c6, .slice a7 n7 c7, .int .i64 x8] w fun e w' => e = .returned (.bool true) ∧ Below w.heap.size w w' := by
  have hn' := hn
  have hn6' := hn6
  have hn7' := hn7
  unfold maxLen at hn' hn6' hn7'
  go_enter Try.func3, Try.ntmps3
  go_wp2_with fail
  refine (bytes9_any false false false x1 x3 x8 cap a6 a7 n6 c6 n7 c7 w hn hn6 hn7 hf hr).mono ?_
  rintro e w1 ⟨r, rfl, hw⟩
  obtain rfl := hw
  clear hn hn6 hn7
  cases r
  · clear hf hr hr6 hr7
    go_wp2
    go_ret
    exact ⟨rfl, Below.refl _ _⟩
  by_cases hbig : 16384 < n ∨ 16384 < n6 ∨ 16384 < n7
  · clear hf hr hr6 hr7
    by_cases b1 : 16384 < n
    · clear hbig
      go_wp2
      go_ret
      exact ⟨rfl, Below.refl _ _⟩
    · by_cases b2 : 16384 < n6
      · clear hbig
        go_wp2
        go_ret
        exact ⟨rfl, Below.refl _ _⟩
      · have b3 : 16384 < n7 := by omega
        clear hbig
        go_wp2
        go_ret
        exact ⟨rfl, Below.refl _ _⟩
  have b1 : n ≤ 16384 := by omega
  have b2 : n6 ≤ 16384 := by omega
  have b3 : n7 ≤ 16384 := by omega
  clear hbig hn' hn6' hn7'
  go_wp2_with fail
  refine (strBytes_any cap w1 (by omega) hf hr).mono ?_
  rintro e w2 ⟨v, hv0, hv1, rfl, hw⟩
  obtain rfl := hw
  by_cases hv : 1048576 < v + 8 * (n6 : Int) + 8 * (n7 : Int)
  · clear hf hr hr6 hr7
    go_wp2
    go_ret
    exact ⟨rfl, Below.refl _ _⟩
  have hv' : v + 8 * (n6 : Int) + 8 * (n7 : Int) ≤ 1048576 := by omega
  clear hv hf
  go_wp2_with fail
  refine (copyStr_any cap w2 (by omega) hr).mono ?_
  rintro e w3 ⟨a3, rfl, hb3⟩
  have g6 := hr6.below hb3
  have g7 := hr7.below hb3
  have HB3 : Hid (Below w2.heap.size w2 w3) := hb3
  clear hr hr6 hr7 hb3
  go_wp2_with fail
  refine (copyInts_any c6 w3 (by omega) g6).mono ?_
  rintro e w4 ⟨a4, rfl, k6, hb4⟩
  have k7 := g7.below hb4
  have HB4 : Hid (Below w2.heap.size w2 w4) := HB3.out.trans (hb4.mono HB3.out.size)
  clear g6 g7 hb4 HB3
  go_wp2_with fail
  refine (copyInts_any c7 w4 (by omega) k7).mono ?_
  rintro e w5 ⟨a5, rfl, j7, hb5⟩
  have j6 := k6.below hb5
  have HB : Hid (Below w2.heap.size w2 w5) := HB4.out.trans (hb5.mono HB4.out.size)
  clear k6 k7 hb5 HB4
  clear j6 j7
  have q := q30
  go_wp2
  go_ret
  exact ⟨by simp, (((HB.out).alloc HB.out.size _).alloc (by have := HB.out.size; simp; omega) _).alloc (by have := HB.out.size; simp; omega) _⟩

set_option maxRecDepth 100000 in
set_option maxHeartbeats 2000000 in
theorem dropFTF (x1 x3 x8 : Int) {a : Option Addr} {n : Nat} {f : Nat → ByteArray} (cap : Nat) {a6 a7 : Option Addr} (n6 c6 n7 c7 : Nat) {zf ze : Nat → Int} (w : World) (hn : n ≤ maxLen) (hn6 : n6 ≤ maxLen) (hn7 : n7 ≤ maxLen) (hf : ∀ i, i < n → (f i).size ≤ maxLen) (hr : ReadsS w a n f) (hr6 : Reads w a6 n6 zf) (hr7 : Reads w a7 n7 ze) :
    Calls Try.prog 3 #[.bool false, .int .i64 x1, .bool true, .int .i64 x3, .slice a n cap, .bool false, .slice a6 n6 c6, .slice a7 n7 c7, .int .i64 x8] w fun e w' => e = .returned (.bool true) ∧ Below w.heap.size w w' := by
  have hn' := hn
  have hn6' := hn6
  have hn7' := hn7
  unfold maxLen at hn' hn6' hn7'
  go_enter Try.func3, Try.ntmps3
  go_wp2_with fail
  refine (bytes9_any false true false x1 x3 x8 cap a6 a7 n6 c6 n7 c7 w hn hn6 hn7 hf hr).mono ?_
  rintro e w1 ⟨r, rfl, hw⟩
  obtain rfl := hw
  clear hn hn6 hn7
  cases r
  · clear hf hr hr6 hr7
    go_wp2
    go_ret
    exact ⟨rfl, Below.refl _ _⟩
  by_cases hbig : 16384 < n ∨ 16384 < n6 ∨ 16384 < n7
  · clear hf hr hr6 hr7
    by_cases b1 : 16384 < n
    · clear hbig
      go_wp2
      go_ret
      exact ⟨rfl, Below.refl _ _⟩
    · by_cases b2 : 16384 < n6
      · clear hbig
        go_wp2
        go_ret
        exact ⟨rfl, Below.refl _ _⟩
      · have b3 : 16384 < n7 := by omega
        clear hbig
        go_wp2
        go_ret
        exact ⟨rfl, Below.refl _ _⟩
  have b1 : n ≤ 16384 := by omega
  have b2 : n6 ≤ 16384 := by omega
  have b3 : n7 ≤ 16384 := by omega
  clear hbig hn' hn6' hn7'
  go_wp2_with fail
  refine (strBytes_any cap w1 (by omega) hf hr).mono ?_
  rintro e w2 ⟨v, hv0, hv1, rfl, hw⟩
  obtain rfl := hw
  by_cases hv : 1048576 < v + 8 * (n6 : Int) + 8 * (n7 : Int)
  · clear hf hr hr6 hr7
    go_wp2
    go_ret
    exact ⟨rfl, Below.refl _ _⟩
  have hv' : v + 8 * (n6 : Int) + 8 * (n7 : Int) ≤ 1048576 := by omega
  clear hv hf
  by_cases hp : x3 < 0 ∨ 100 < x3
  · clear hr hr6 hr7
    by_cases p1 : x3 < 0
    · clear hp
      go_wp2
      go_ret
      exact ⟨rfl, Below.refl _ _⟩
    · have p2 : 100 < x3 := by omega
      clear hp
      go_wp2
      go_ret
      exact ⟨rfl, Below.refl _ _⟩
  have p1 : 0 ≤ x3 := by omega
  have p2 : x3 ≤ 100 := by omega
  clear hp
  have m1 : 0 ≤ (n : Int) * x3 := Int.mul_nonneg (by omega) p1
  have m2 : (n : Int) * x3 ≤ 16384 * 100 := Int.mul_le_mul (by omega) p2 (by omega) (by omega)
  go_wp2_with fail
  refine (copyStr_any cap w2 (by omega) hr).mono ?_
  rintro e w3 ⟨a3, rfl, hb3⟩
  have g6 := hr6.below hb3
  have g7 := hr7.below hb3
  have HB3 : Hid (Below w2.heap.size w2 w3) := hb3
  clear hr hr6 hr7 hb3
  go_wp2_with fail
  refine (copyInts_any c6 w3 (by omega) g6).mono ?_
  rintro e w4 ⟨a4, rfl, k6, hb4⟩
  have k7 := g7.below hb4
  have HB4 : Hid (Below w2.heap.size w2 w4) := HB3.out.trans (hb4.mono HB3.out.size)
  clear g6 g7 hb4 HB3
  go_wp2_with fail
  refine (copyInts_any c7 w4 (by omega) k7).mono ?_
  rintro e w5 ⟨a5, rfl, j7, hb5⟩
  have j6 := k6.below hb5
  have HB : Hid (Below w2.heap.size w2 w5) := HB4.out.trans (hb5.mono HB4.out.size)
  clear k6 k7 hb5 HB4
  clear j6 j7
  go_wp2
  go_quiet (fail)
  go_wp2
  go_ret
  exact ⟨ret_bool (by simp; omega), below_drewN (((((HB.out).alloc HB.out.size _).alloc (by have := HB.out.size; simp; omega) _).alloc (by have := HB.out.size; simp; omega) _).alloc (by have := HB.out.size; simp; omega) _) _⟩

end Go.Proofs.Qxb6600327a
