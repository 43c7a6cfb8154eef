/- zzNonDecreasing, zzStrict: their contracts. -/
import Derived.Test.Qxb6600284aBase
namespace Go.Proofs.Qxb6600284a
open Go.RowKit

def NonDec (n : Nat) (z : Nat → Int) : Prop := ∀ j, j + 1 < n → z j ≤ z (j + 1)
def Strict (n : Nat) (z : Nat → Int) : Prop := ∀ j, j + 1 < n → z j < z (j + 1)

set_option maxHeartbeats 400000 in
theorem nondec_some (b o n cap : Nat) (z : Nat → Int) (w : World) (hn : n ≤ 1048576) (hc : ∀ i, i < n → w.cell? ⟨b, o + i, none⟩ = some (.int .i64 (z i))) :
    Calls Try.prog 12 #[.slice (some ⟨b, o, none⟩) n cap] w fun e w' => ∃ r : Bool, e = .returned (.bool r) ∧ (r = true → NonDec n z) ∧ ∃ m, w' = w.drewN m := by
  go_enter Try.func12, Try.ntmps12
  go_wp2
  go_loopw [3] (fun i wr => ∃ k : Nat, 1 ≤ k ∧ i = .int .i64 k ∧ (k ≤ n ∨ k = 1) ∧ (∀ j, j + 1 < k → z j ≤ z (j + 1)) ∧ ∃ m, wr = w.drewN m) (fun i _ => n - (intOf i).toNat)
  case atStart => exact ⟨1, Nat.le_refl _, rfl, .inr rfl, fun j hj => by omega, 0, rfl⟩
  case round =>
    obtain ⟨k, hk1, rfl, hk, hs, m, rfl⟩ := hrel
    have HS : Hid (∀ j, j + 1 < k → z j ≤ z (j + 1)) := hs
    clear hs
    by_cases hlt : k < n
    · have c0 := hc k hlt
      have c1 : w.cell? ⟨b, o + (k - 1), none⟩ = some (.int .i64 (z (k - 1))) := hc (k - 1) (by omega)
      clear hc
      go_wp2
      go_quiet (fail)
      go_wp2
      · go_ret
        exact ⟨false, rfl, fun h => by simp at h, m + nq, by rw [World.drewN_drewN]⟩
      · have hle : z (k - 1) ≤ z k := by assumption
        go_roundw
        case rel => exact ⟨k + 1, by omega, by go_num, .inl (by omega), fun j hj => by
          by_cases hj2 : j + 1 < k
          · exact HS.out j hj2
          · obtain rfl : k = j + 1 := by omega
            simpa using hle, _, rfl⟩
        case measure => simp [intOf]; omega
    · clear hc
      go_wp2
      go_ret
      exact ⟨true, rfl, fun _ j hj => HS.out j (by omega), _, rfl⟩

theorem nondec_none (a : Option Addr) (cap : Nat) (w : World) :
    Calls Try.prog 12 #[.slice a 0 cap] w fun e w' => e = .returned (.bool true) ∧ w' = w := by
  go_enter Try.func12, Try.ntmps12
  go_wp2
  refine wp_loop_rounds 1 ?_
  rw [rounds_succ]
  go_wp2
  go_ret
  exact ⟨rfl, rfl⟩

theorem nondec_any {a : Option Addr} {n : Nat} {z : Nat → Int} (cap : Nat) (w : World) (hn : n ≤ 1048576) (hr : Reads .i64 w a n z) :
    Calls Try.prog 12 #[.slice a n cap] w fun e w' => ∃ r : Bool, e = .returned (.bool r) ∧ (r = true → NonDec n z) ∧ ∃ m, w' = w.drewN m := by
  rcases hr with rfl | ⟨b, o, rfl, hc⟩
  · exact (nondec_none a cap w).mono fun e w' ⟨h1, h2⟩ => ⟨true, h1, fun _ j hj => by omega, 0, h2⟩
  · exact nondec_some b o n cap z w hn hc

set_option maxHeartbeats 400000 in
theorem strict_some (b o n cap : Nat) (z : Nat → Int) (w : World) (hn : n ≤ 1048576) (hc : ∀ i, i < n → w.cell? ⟨b, o + i, none⟩ = some (.int .i64 (z i))) :
    Calls Try.prog 18 #[.slice (some ⟨b, o, none⟩) n cap] w fun e w' => ∃ r : Bool, e = .returned (.bool r) ∧ (r = true ↔ Strict n z) ∧ ∃ m, w' = w.drewN m := by
  go_enter Try.func18, Try.ntmps18
  go_wp2
  go_loopw [3] (fun i wr => ∃ k : Nat, 1 ≤ k ∧ i = .int .i64 k ∧ (k ≤ n ∨ k = 1) ∧ (∀ j, j + 1 < k → z j < z (j + 1)) ∧ ∃ m, wr = w.drewN m) (fun i _ => n - (intOf i).toNat)
  case atStart => exact ⟨1, Nat.le_refl _, rfl, .inr rfl, fun j hj => by omega, 0, rfl⟩
  case round =>
    obtain ⟨k, hk1, rfl, hk, hs, m, rfl⟩ := hrel
    have HS : Hid (∀ j, j + 1 < k → z j < z (j + 1)) := hs
    clear hs
    by_cases hlt : k < n
    · have c0 := hc k hlt
      have c1 : w.cell? ⟨b, o + (k - 1), none⟩ = some (.int .i64 (z (k - 1))) := hc (k - 1) (by omega)
      clear hc
      go_wp2
      go_quiet (fail)
      go_wp2
      · have hle : z k ≤ z (k - 1) := by assumption
        go_ret
        refine ⟨false, rfl, ⟨fun h => by simp at h, fun h => ?_⟩, m + nq, by rw [World.drewN_drewN]⟩
        have := h (k - 1) (by omega)
        rw [show k - 1 + 1 = k by omega] at this
        omega
      · have hle : z (k - 1) < z k := by assumption
        go_roundw
        case rel => exact ⟨k + 1, by omega, by go_num, .inl (by omega), fun j hj => by
          by_cases hj2 : j + 1 < k
          · exact HS.out j hj2
          · obtain rfl : k = j + 1 := by omega
            simpa using hle, _, rfl⟩
        case measure => simp [intOf]; omega
    · clear hc
      go_wp2
      go_ret
      exact ⟨true, rfl, ⟨fun _ j hj => HS.out j (by omega), fun _ => rfl⟩, _, rfl⟩

theorem strict_none (a : Option Addr) (cap : Nat) (w : World) :
    Calls Try.prog 18 #[.slice a 0 cap] w fun e w' => e = .returned (.bool true) ∧ w' = w := by
  go_enter Try.func18, Try.ntmps18
  go_wp2
  refine wp_loop_rounds 1 ?_
  rw [rounds_succ]
  go_wp2
  go_ret
  exact ⟨rfl, rfl⟩

theorem strict_any {a : Option Addr} {n : Nat} {z : Nat → Int} (cap : Nat) (w : World) (hn : n ≤ 1048576) (hr : Reads .i64 w a n z) :
    Calls Try.prog 18 #[.slice a n cap] w fun e w' => ∃ r : Bool, e = .returned (.bool r) ∧ (r = true ↔ Strict n z) ∧ ∃ m, w' = w.drewN m := by
  rcases hr with rfl | ⟨b, o, rfl, hc⟩
  · exact (strict_none a cap w).mono fun e w' ⟨h1, h2⟩ => ⟨true, h1, ⟨fun _ j hj => by omega, fun _ => rfl⟩, 0, h2⟩
  · exact strict_some b o n cap z w hn hc

end Go.Proofs.Qxb6600284a
