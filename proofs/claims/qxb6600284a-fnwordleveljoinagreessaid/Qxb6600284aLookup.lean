/- zzLookup, zzLevelFits, zzMaxInt: their contracts. -/
import Derived.Test.Qxb6600284aSorted
import Derived.Test.Qxb6600284aSeek
namespace Go.Proofs.Qxb6600284a
open Go.RowKit

theorem Strict.nonDec' {n : Nat} {z : Nat → Int} (h : Strict n z) : NonDec n z := fun j hj => Int.le_of_lt (h j hj)

/-- What zzLookup answers. -/
def Found (n : Nat) (z y : Nat → Int) (x v : Int) (f : Bool) : Prop := (f = true ∧ ∃ i, i < n ∧ z i = x ∧ v = y i) ∨ (f = false ∧ v = 0 ∧ ∀ i, i < n → z i ≠ x)

/-- The post, kept from the walk. -/
def LookPost (n : Nat) (z y : Nat → Int) (x : Int) (w : World) (e : Ending) (w' : World) : Prop := ∃ v f, Found n z y x v f ∧ e = .returned (.tuple #[.int .u64 v, .bool f]) ∧ w' = w
theorem LookPost.mk {n : Nat} {z y : Nat → Int} {x : Int} {w : World} (v : Int) (f : Bool) (h : Found n z y x v f) : LookPost n z y x w (.returned (.tuple #[.int .u64 v, .bool f])) w := ⟨v, f, h, rfl, rfl⟩

set_option maxHeartbeats 1000000 in
theorem lookup_some (b1 o1 c1 b2 o2 c2 n : Nat) (z y : Nat → Int) (x : Int) (w : World) (hn : n ≤ 1048576) (hs : Strict n z)
    (hc1 : ∀ i, i < n → w.cell? ⟨b1, o1 + i, none⟩ = some (.int .i64 (z i))) (hc2 : ∀ i, i < n → w.cell? ⟨b2, o2 + i, none⟩ = some (.int .u64 (y i))) :
    Calls Try.prog 25 #[.slice (some ⟨b1, o1, none⟩) n c1, .slice (some ⟨b2, o2, none⟩) n c2, .int .i64 x] w (LookPost n z y x w) := by
  have HS : Hid (NonDec n z) := hs.nonDec'
  clear hs
  go_enter Try.func25, Try.ntmps25
  go_wp2
  go_loop [8, 9] (fun lo hi => ∃ l t : Nat, lo = .int .i64 l ∧ hi = .int .i64 t ∧ l ≤ t ∧ t ≤ n ∧ Hid ((∀ i, i < l → z i < x) ∧ (∀ i, t ≤ i → i < n → x < z i))) (fun lo hi => (intOf hi).toNat - (intOf lo).toNat)
  case atStart => exact ⟨0, n, rfl, rfl, Nat.zero_le _, Nat.le_refl _, ⟨fun i hi => by omega, fun i h1 h2 => by omega⟩⟩
  case round =>
    obtain ⟨l, t, rfl, rfl, hlt, htn, HL⟩ := hrel
    by_cases h : l < t
    · have cm := hc1 (l + (t - l) / 2) (by omega)
      have cb := hc2 (l + (t - l) / 2) (by omega)
      clear hc1 hc2
      rcases Int.lt_trichotomy (z (l + (t - l) / 2)) x with hx | hx | hx
      · have hne : (z (l + (t - l) / 2) == x) = false := by simp; omega
        go_wp2
        go_round
        case rel => exact ⟨l + (t - l) / 2 + 1, t, by go_num, rfl, by omega, htn, ⟨fun i hi => Int.lt_of_le_of_lt (HS.out.le i (l + (t - l) / 2) (by omega) (by omega)) hx, HL.out.2⟩⟩
        case measure => simp [intOf]; omega
      · have heq : (z (l + (t - l) / 2) == x) = true := by simp [hx]
        have HX : Hid (z (l + (t - l) / 2) = x) := hx
        clear hx
        go_wp2
        go_ret2
        exact LookPost.mk _ true (.inl ⟨rfl, l + (t - l) / 2, by omega, HX.out, rfl⟩)
      · have hne : (z (l + (t - l) / 2) == x) = false := by simp; omega
        go_wp2
        go_round
        case rel => exact ⟨l, l + (t - l) / 2, rfl, by go_num, by omega, by omega, ⟨HL.out.1, fun i h1 h2 => Int.lt_of_lt_of_le hx (HS.out.le (l + (t - l) / 2) i h1 h2)⟩⟩
        case measure => simp [intOf]; omega
    · clear hc1 hc2
      go_wp2
      go_ret2
      exact LookPost.mk 0 false (.inr ⟨rfl, rfl, fun i hi hz => by
        by_cases hil : i < l
        · have := HL.out.1 i hil; omega
        · have := HL.out.2 i (by omega) hi; omega⟩)

theorem lookup_none (a1 a2 : Option Addr) (c1 c2 : Nat) (x : Int) (w : World) :
    Calls Try.prog 25 #[.slice a1 0 c1, .slice a2 0 c2, .int .i64 x] w fun e w' => e = .returned (.tuple #[.int .u64 0, .bool false]) ∧ w' = w := by
  go_enter Try.func25, Try.ntmps25
  go_wp2
  refine wp_loop_rounds 1 ?_
  rw [rounds_succ]
  go_wp2
  go_ret2
  exact ⟨rfl, rfl⟩

theorem lookup_any {a1 a2 : Option Addr} {n : Nat} {z y : Nat → Int} (c1 c2 : Nat) (x : Int) (w : World) (hn : n ≤ 1048576) (hs : Strict n z) (h1 : Reads .i64 w a1 n z) (h2 : Reads .u64 w a2 n y) :
    Calls Try.prog 25 #[.slice a1 n c1, .slice a2 n c2, .int .i64 x] w fun e w' => ∃ v f, Found n z y x v f ∧ e = .returned (.tuple #[.int .u64 v, .bool f]) ∧ w' = w := by
  by_cases h0 : n = 0
  · subst h0
    exact (lookup_none a1 a2 c1 c2 x w).mono fun e w' ⟨k1, k2⟩ => ⟨0, false, .inr ⟨rfl, rfl, fun i hi => by omega⟩, k1, k2⟩
  · rcases h1 with h1 | ⟨b1, o1, rfl, hc1⟩
    · exact absurd h1 h0
    rcases h2 with h2 | ⟨b2, o2, rfl, hc2⟩
    · exact absurd h2 h0
    exact lookup_some b1 o1 c1 b2 o2 c2 n z y x w hn hs hc1 hc2

theorem fits_ne (a1 a2 : Option Addr) (n m c1 c2 : Nat) (w : World) (hne : n ≠ m) :
    Calls Try.prog 20 #[.slice a1 n c1, .slice a2 m c2] w fun e w' => e = .returned (.bool false) ∧ w' = w := by
  have hb : ((n : Int) == (m : Int)) = false := by simp; omega
  go_enter Try.func20, Try.ntmps20
  go_wp2
  go_ret
  exact ⟨rfl, rfl⟩

theorem fits_any {a1 : Option Addr} (a2 : Option Addr) {n : Nat} {z : Nat → Int} (m c1 c2 : Nat) (w : World) (hn : n ≤ 1048576) (h1 : Reads .i64 w a1 n z) :
    Calls Try.prog 20 #[.slice a1 n c1, .slice a2 m c2] w fun e w' => ∃ r : Bool, e = .returned (.bool r) ∧ (r = true → n = m ∧ Strict n z) ∧ ∃ k, w' = w.drewN k := by
  by_cases hnm : n = m
  · subst hnm
    go_enter Try.func20, Try.ntmps20
    go_wp2_with fail
    refine (strict_any c1 w hn h1).mono ?_
    rintro e w1 ⟨r, rfl, hr, k, rfl⟩
    have HR : Hid (r = true ↔ Strict n z) := hr
    clear hr
    cases r
    all_goals
      go_wp2
      go_ret
    · exact ⟨false, rfl, fun h => by simp at h, k, rfl⟩
    · exact ⟨true, rfl, fun _ => ⟨trivial, HR.out.1 trivial⟩, k, rfl⟩
  · exact (fits_ne a1 a2 n m c1 c2 w hnm).mono fun e w' ⟨k1, k2⟩ => ⟨false, k1, fun h => by simp at h, 0, k2⟩

theorem max_any (a b : Int) (w : World) : Calls Try.prog 28 #[.int .i64 a, .int .i64 b] w fun e w' => e = .returned (.int .i64 (max a b)) ∧ w' = w := by
  by_cases h : b < a
  · rw [show max a b = a by omega]
    go_enter Try.func28, Try.ntmps28
    go_wp2
    go_ret
    exact ⟨rfl, rfl⟩
  · rw [show max a b = b by omega]
    go_enter Try.func28, Try.ntmps28
    go_wp2
    go_ret
    exact ⟨rfl, rfl⟩

end Go.Proofs.Qxb6600284a
