/- FnQuorateCaseTable: the walks. -/
import Derived.Test.Qxb6600327aBase
namespace Go.Proofs.Qxb6600327a
open Go.RowKit

/-! ### zzBytes_FnQuorateCaseTable: it answers -/
def SomeBool (w : World) (e : Ending) (w' : World) : Prop := ∃ r : Bool, e = .returned (.bool r) ∧ w' = w
theorem ret_bool {a b : Bool} (h : a = b) : Ending.returned (.bool a) = .returned (.bool b) := by rw [h]
theorem SomeBool.mk {w : World} (r : Bool) : SomeBool w (.returned (.bool r)) w := ⟨r, rfl, rfl⟩

set_option maxHeartbeats 400000 in
theorem bytes19_some (h0 h1 : Bool) (x1 x2 x3 : Int) (b o n cap : Nat) (f : Nat → ByteArray) (w : World) (hn : n ≤ maxLen) (hf : ∀ i, i < n → (f i).size ≤ maxLen) (hc : ∀ i, i < n → w.cell? ⟨b, o + i, none⟩ = some (.string (f i))) :
    Calls Try.prog 19 #[.bool h0, .bool h1, .int .i64 x1, .int .i64 x2, .slice (some ⟨b, o, none⟩) n cap, .int .i64 x3] w (SomeBool w) := by
  unfold maxLen at hn
  by_cases hbig : 1048576 < n
  · go_enter Try.func19, Try.ntmps19
    go_wp2
    go_ret
    exact SomeBool.mk false
  · go_enter Try.func19, Try.ntmps19
    go_wp2
    go_loop [13, 14] (fun s i => ∃ (k : Nat) (t : Int), k ≤ n ∧ i = .int .i64 k ∧ s = .int .i64 t ∧ 0 ≤ t ∧ t ≤ 1048576) (fun _ i => n - (intOf i).toNat)
    case atStart => exact ⟨0, (n : Int), Nat.zero_le _, rfl, by go_num, by omega, by omega⟩
    case round =>
      obtain ⟨k, t, hk, rfl, rfl, ht0, ht1⟩ := hrel
      by_cases hlt : k < n
      · have ck := hc k hlt
        have hs := hf k hlt
        unfold maxLen at hs
        obtain ⟨g, hg⟩ : ∃ g, g = f k := ⟨_, rfl⟩
        rw [← hg] at ck hs
        clear hc hf hg
        by_cases hb2 : 1048576 < g.size
        · go_wp2
          go_ret
          exact SomeBool.mk false
        · by_cases hsum : 1048576 < t + (g.size : Int)
          · go_wp2
            go_ret
            exact SomeBool.mk false
          · go_wp2
            go_round
            case rel => exact ⟨k + 1, t + (g.size : Int), by omega, by go_num, rfl, by omega, by omega⟩
            case measure => simp [intOf]; omega
      · clear hc hf
        go_wp2
        go_ret
        exact SomeBool.mk true

theorem bytes19_none (h0 h1 : Bool) (x1 x2 x3 : Int) (a : Option Addr) (cap : Nat) (w : World) :
    Calls Try.prog 19 #[.bool h0, .bool h1, .int .i64 x1, .int .i64 x2, .slice a 0 cap, .int .i64 x3] w (SomeBool w) := by
  go_enter Try.func19, Try.ntmps19
  go_wp2
  refine wp_loop_rounds 1 ?_
  rw [rounds_succ]
  go_wp2
  go_ret
  exact SomeBool.mk true

theorem bytes19_any (h0 h1 : Bool) (x1 x2 x3 : Int) {a : Option Addr} {n : Nat} {f : Nat → ByteArray} (cap : Nat) (w : World) (hn : n ≤ maxLen) (hf : ∀ i, i < n → (f i).size ≤ maxLen) (hr : ReadsS w a n f) :
    Calls Try.prog 19 #[.bool h0, .bool h1, .int .i64 x1, .int .i64 x2, .slice a n cap, .int .i64 x3] w (SomeBool w) := by
  rcases hr with rfl | ⟨b, o, rfl, hc⟩
  · exact bytes19_none h0 h1 x1 x2 x3 a cap w
  · exact bytes19_some h0 h1 x1 x2 x3 b o n cap f w hn hf hc

set_option maxRecDepth 100000 in
set_option maxHeartbeats 1000000 in
theorem quor_walk (h0 h1 : Bool) (x1 x2 x3 : Int) {a : Option Addr} {n : Nat} {f : Nat → ByteArray} (cap : Nat) (w : World) (hn : n ≤ maxLen) (hf : ∀ i, i < n → (f i).size ≤ maxLen) (hr : ReadsS w a n f) :
    Calls Try.prog 5 #[.bool h0, .bool h1, .int .i64 x1, .int .i64 x2, .slice a n cap, .int .i64 x3] w fun e w' => e = .returned (.bool true) ∧ Below w.heap.size w w' := by
  have hn' := hn
  unfold maxLen at hn'
  go_enter Try.func5, Try.ntmps5
  go_wp2_with fail
  refine (bytes19_any h0 h1 x1 x2 x3 cap w hn hf hr).mono ?_
  rintro e w1 ⟨r, rfl, hw⟩
  obtain rfl := hw
  clear hn
  cases r
  · clear hf hr
    go_wp2
    go_ret
    exact ⟨rfl, Below.refl _ _⟩
  by_cases hbig : 16384 < n
  · clear hf hr
    go_wp2
    go_ret
    exact ⟨rfl, Below.refl _ _⟩
  go_wp2_with fail
  refine (strBytes_any cap w1 (by omega) hf hr).mono ?_
  rintro e w2 ⟨v, hv0, hv1, rfl, hw⟩
  obtain rfl := hw
  by_cases hv : 1048576 < v
  · clear hf hr
    go_wp2
    go_ret
    exact ⟨rfl, Below.refl _ _⟩
  cases h0
  · go_wp2_with fail
    refine (copyStr_any cap w2 (by omega) hr).mono ?_
    rintro e w3 ⟨a3, rfl, hb3⟩
    have HB : Hid (Below w2.heap.size w2 w3) := hb3
    clear hb3 hf hr
    go_wp2
    go_ret
    exact ⟨rfl, HB.out.alloc HB.out.size _⟩
  · cases h1
    · by_cases hp : x2 < 0 ∨ 100 < x2 ∨ x3 < -1048576 ∨ 1048576 < x3
      · clear hf hr
        by_cases p1 : x2 < 0
        · go_wp2
          go_ret
          exact ⟨rfl, Below.refl _ _⟩
        · by_cases p2 : 100 < x2
          · go_wp2
            go_ret
            exact ⟨rfl, Below.refl _ _⟩
          · by_cases p3 : x3 < -1048576
            · go_wp2
              go_ret
              exact ⟨rfl, Below.refl _ _⟩
            · have p4 : 1048576 < x3 := by omega
              go_wp2
              go_ret
              exact ⟨rfl, Below.refl _ _⟩
      · have p1 : 0 ≤ x2 := by omega
        have p2 : x2 ≤ 100 := by omega
        have p3 : -1048576 ≤ x3 := by omega
        have p4 : x3 ≤ 1048576 := by omega
        clear hp
        go_wp2_with fail
        refine (copyStr_any cap w2 (by omega) hr).mono ?_
        rintro e w3 ⟨a3, rfl, hb3⟩
        have HB : Hid (Below w2.heap.size w2 w3) := hb3
        clear hb3 hf hr
        have m1 : 0 ≤ x2 * (n : Int) := Int.mul_nonneg p1 (by omega)
        have m2 : x2 * (n : Int) ≤ 100 * 16384 := Int.mul_le_mul p2 (by omega) (by omega) (by omega)
        have m3 : 0 ≤ (n : Int) * x2 := by rw [Int.mul_comm]; exact m1
        have m4 : (n : Int) * x2 ≤ 100 * 16384 := by rw [Int.mul_comm]; exact m2
        have HM : Hid ((n : Int) * x2 = x2 * (n : Int)) := Int.mul_comm _ _
        by_cases hq : ((n : Int) - x3) * 100 ≤ x2 * (n : Int)
        · have hr : (n : Int) - (n : Int) * x2 / 100 ≤ x3 := by have := HM.out; omega
          go_wp2
          go_quiet (fail)
          go_wp2
          go_ret
          exact ⟨rfl, below_drewN (((HB.out.alloc HB.out.size _).alloc (by have := HB.out.size; simp; omega) _).alloc (by have := HB.out.size; simp; omega) _) _⟩
        · have hr : ¬ (n : Int) - (n : Int) * x2 / 100 ≤ x3 := by have := HM.out; omega
          go_wp2
          go_quiet (fail)
          go_wp2
          go_ret
          exact ⟨ret_bool (by simp; constructor <;> intro h <;> omega), below_drewN (((HB.out.alloc HB.out.size _).alloc (by have := HB.out.size; simp; omega) _).alloc (by have := HB.out.size; simp; omega) _) _⟩
    · go_wp2_with fail
      refine (copyStr_any cap w2 (by omega) hr).mono ?_
      rintro e w3 ⟨a3, rfl, hb3⟩
      have HB : Hid (Below w2.heap.size w2 w3) := hb3
      clear hb3 hf hr
      go_wp2
      go_ret
      exact ⟨ret_bool (by simp), (((HB.out.alloc HB.out.size _).alloc (by have := HB.out.size; simp; omega) _).alloc (by have := HB.out.size; simp; omega) _).alloc (by have := HB.out.size; simp; omega) _⟩
theorem quor_row (h0 h1 : Bool) (x1 x2 x3 : Int) {a : Option Addr} {n : Nat} {ss : List ByteArray} (cap : Nat) (w : World) (h : IsStrs w a n cap ss) :
    Calls Try.prog 5 #[.bool h0, .bool h1, .int .i64 x1, .int .i64 x2, .slice a n cap, .int .i64 x3] w fun e w' => e = .returned (.bool true) ∧ Below w.heap.size w w' := by
  obtain ⟨k1, k2, k3⟩ := isStrs_reads h
  exact quor_walk h0 h1 x1 x2 x3 cap w k1 k2 k3

end Go.Proofs.Qxb6600327a
