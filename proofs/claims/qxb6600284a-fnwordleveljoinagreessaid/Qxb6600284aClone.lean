/- zzCloneInts, zzCloneBits, ZZWords: their contracts. -/
import Derived.Test.Qxb6600284aBase
namespace Go.Proofs.Qxb6600284a
open Go.RowKit

theorem own_cell {w : World} {base e size g n cap : Nat} {xs : List Value} (h : w.ownsRow base e size (.slice (some ⟨g, 0, none⟩) n cap) n xs) (j : Nat) (hj : j < n * size) : ∃ u, w.cell? ⟨g, j, none⟩ = some u := by
  rw [h.cellAt j hj]
  exact ⟨xs[j]'(by rw [h.1]; exact hj), List.getElem?_eq_getElem _⟩

set_option maxHeartbeats 400000 in
theorem cloneInts_some (b o n cap : Nat) (z : Nat → Int) (w : World) (hn : n ≤ 1048576) (hc : ∀ i, i < n → w.cell? ⟨b, o + i, none⟩ = some (.int .i64 (z i))) :
    Calls Try.prog 13 #[.slice (some ⟨b, o, none⟩) n cap] w fun e w' => ∃ a', e = .returned (.slice a' n n) ∧ Reads .i64 w' a' n z ∧ Below w.heap.size w w' := by
  obtain ⟨i0, hi, hz0, hz1, hz2⟩ := info_parts info3
  have q := q22
  go_enter Try.func13, Try.ntmps13
  go_wp2_with (at_make; refine wpList_make_full _ rfl _ _ 22 rfl w.heap.size 3 i0 (.int .i64 0) 1 Try.underlying22 hi hz0 hz1 _ _ _ _ n rfl rfl rfl rfl ?b2 ?b3 (Nat.le_refl _) ?_)
  case b2 => rw [hz2]; omega
  case b3 => unfold maxLen; omega
  intro w0 hown0 hgrow0
  go_wp2
  go_loopw [4] (fun i wr => ∃ (k : Nat) (xs : List Value), k ≤ n ∧ i = .int .i64 k ∧ wr.ownsRow w.heap.size 3 1 (.slice (some ⟨w.heap.size, 0, none⟩) n n) n xs ∧ (∀ j, j < k → xs[j]? = some (.int .i64 (z j))) ∧ Below w.heap.size w wr) (fun i _ => n - (intOf i).toNat)
  case atStart => exact ⟨0, _, Nat.zero_le _, rfl, hown0, fun j hj => by omega, (Below.refl _ _).grown hgrow0 (Nat.le_refl _) (fun k h => by cases h)⟩
  case round =>
    obtain ⟨k, xs, hk, rfl, hown, hs, hnx⟩ := hrel
    have HS : Hid (∀ j, j < k → xs[j]? = some (.int .i64 (z j))) := hs
    clear hs hown0 hgrow0
    by_cases hlt : k < n
    · have hl := hown.1
      have c0 : wr.cell? ⟨b, o + k, none⟩ = some (.int .i64 (z k)) := by
        rw [hnx.cell (p := ⟨b, o + k, none⟩) (World.block_lt_of_cell? w ⟨b, o + k, none⟩ (hc k hlt))]; exact hc k hlt
      obtain ⟨u, c1⟩ := own_cell hown k (by omega)
      have c2 := hown.frozenAt k
      have HO : Hid (wr.ownsRow w.heap.size 3 1 (.slice (some ⟨w.heap.size, 0, none⟩) n n) n xs) := hown
      have HL : Hid (xs.length = n * 1) := hl
      clear hc hown hl
      go_wp2
      go_roundw
      case rel => exact ⟨k + 1, xs.set k (.int .i64 (z k)), by omega, by go_num, (HO.out.stored k _).1, fun j hj => by
          have hl := HL.out
          by_cases hj2 : j = k
          · subst hj2; rw [List.getElem?_set_self (by omega)]
          · rw [List.getElem?_set_ne (by omega)]; exact HS.out j (by omega), hnx.setCell (Nat.le_refl _) _⟩
      case measure => simp [intOf]; omega
    · go_wp2
      go_ret
      exact ⟨_, rfl, .inr ⟨_, 0, rfl, fun i hi => by rw [Nat.zero_add, hown.cellAt i (by omega)]; exact HS.out i (by omega)⟩, hnx⟩

theorem cloneInts_none (a : Option Addr) (cap : Nat) (w : World) :
    Calls Try.prog 13 #[.slice a 0 cap] w fun e w' => ∃ a', e = .returned (.slice a' 0 0) ∧ Below w.heap.size w w' := by
  obtain ⟨i0, hi, hz0, hz1, hz2⟩ := info_parts info3
  have q := q22
  cases a with
  | none =>
    go_enter Try.func13, Try.ntmps13
    go_wp2
    go_ret
    exact ⟨_, rfl, Below.refl _ _⟩
  | some x =>
    go_enter Try.func13, Try.ntmps13
    go_wp2_with (at_make; refine wpList_make_full _ rfl _ _ 22 rfl w.heap.size 3 i0 (.int .i64 0) 1 Try.underlying22 hi hz0 hz1 _ _ _ _ 0 rfl rfl rfl rfl ?b2 ?b3 (Nat.le_refl _) ?_)
    case b2 => rw [hz2]; omega
    case b3 => unfold maxLen; omega
    intro w0 hown0 hgrow0
    go_wp2
    refine wp_loop_rounds 1 ?_
    rw [rounds_succ]
    go_wp2
    go_ret
    exact ⟨_, rfl, (Below.refl _ _).grown hgrow0 (Nat.le_refl _) (fun k h => by cases h)⟩

theorem cloneInts_any {a : Option Addr} {n : Nat} {z : Nat → Int} (cap : Nat) (w : World) (hn : n ≤ 1048576) (hr : Reads .i64 w a n z) :
    Calls Try.prog 13 #[.slice a n cap] w fun e w' => ∃ a', e = .returned (.slice a' n n) ∧ Reads .i64 w' a' n z ∧ Below w.heap.size w w' := by
  rcases hr with rfl | ⟨b, o, rfl, hc⟩
  · exact (cloneInts_none a cap w).mono fun e w' ⟨a', h1, h2⟩ => ⟨a', h1, .inl rfl, h2⟩
  · exact cloneInts_some b o n cap z w hn hc

set_option maxHeartbeats 400000 in
theorem cloneBits_some (b o n cap : Nat) (z : Nat → Int) (w : World) (hn : n ≤ 1048576) (hc : ∀ i, i < n → w.cell? ⟨b, o + i, none⟩ = some (.int .u64 (z i))) :
    Calls Try.prog 21 #[.slice (some ⟨b, o, none⟩) n cap] w fun e w' => ∃ a', e = .returned (.slice a' n n) ∧ Reads .u64 w' a' n z ∧ Below w.heap.size w w' := by
  obtain ⟨i0, hi, hz0, hz1, hz2⟩ := info_parts info41
  have q := q31
  go_enter Try.func21, Try.ntmps21
  go_wp2_with (at_make; refine wpList_make_full _ rfl _ _ 31 rfl w.heap.size 41 i0 (.int .u64 0) 1 Try.underlying31 hi hz0 hz1 _ _ _ _ n rfl rfl rfl rfl ?b2 ?b3 (Nat.le_refl _) ?_)
  case b2 => rw [hz2]; omega
  case b3 => unfold maxLen; omega
  intro w0 hown0 hgrow0
  go_wp2
  go_loopw [4] (fun i wr => ∃ (k : Nat) (xs : List Value), k ≤ n ∧ i = .int .i64 k ∧ wr.ownsRow w.heap.size 41 1 (.slice (some ⟨w.heap.size, 0, none⟩) n n) n xs ∧ (∀ j, j < k → xs[j]? = some (.int .u64 (z j))) ∧ Below w.heap.size w wr) (fun i _ => n - (intOf i).toNat)
  case atStart => exact ⟨0, _, Nat.zero_le _, rfl, hown0, fun j hj => by omega, (Below.refl _ _).grown hgrow0 (Nat.le_refl _) (fun k h => by cases h)⟩
  case round =>
    obtain ⟨k, xs, hk, rfl, hown, hs, hnx⟩ := hrel
    have HS : Hid (∀ j, j < k → xs[j]? = some (.int .u64 (z j))) := hs
    clear hs hown0 hgrow0
    by_cases hlt : k < n
    · have hl := hown.1
      have c0 : wr.cell? ⟨b, o + k, none⟩ = some (.int .u64 (z k)) := by
        rw [hnx.cell (p := ⟨b, o + k, none⟩) (World.block_lt_of_cell? w ⟨b, o + k, none⟩ (hc k hlt))]; exact hc k hlt
      obtain ⟨u, c1⟩ := own_cell hown k (by omega)
      have c2 := hown.frozenAt k
      have HO : Hid (wr.ownsRow w.heap.size 41 1 (.slice (some ⟨w.heap.size, 0, none⟩) n n) n xs) := hown
      have HL : Hid (xs.length = n * 1) := hl
      clear hc hown hl
      go_wp2
      go_roundw
      case rel => exact ⟨k + 1, xs.set k (.int .u64 (z k)), by omega, by go_num, (HO.out.stored k _).1, fun j hj => by
          have hl := HL.out
          by_cases hj2 : j = k
          · subst hj2; rw [List.getElem?_set_self (by omega)]
          · rw [List.getElem?_set_ne (by omega)]; exact HS.out j (by omega), hnx.setCell (Nat.le_refl _) _⟩
      case measure => simp [intOf]; omega
    · go_wp2
      go_ret
      exact ⟨_, rfl, .inr ⟨_, 0, rfl, fun i hi => by rw [Nat.zero_add, hown.cellAt i (by omega)]; exact HS.out i (by omega)⟩, hnx⟩

theorem cloneBits_none (a : Option Addr) (cap : Nat) (w : World) :
    Calls Try.prog 21 #[.slice a 0 cap] w fun e w' => ∃ a', e = .returned (.slice a' 0 0) ∧ Below w.heap.size w w' := by
  obtain ⟨i0, hi, hz0, hz1, hz2⟩ := info_parts info41
  have q := q31
  cases a with
  | none =>
    go_enter Try.func21, Try.ntmps21
    go_wp2
    go_ret
    exact ⟨_, rfl, Below.refl _ _⟩
  | some x =>
    go_enter Try.func21, Try.ntmps21
    go_wp2_with (at_make; refine wpList_make_full _ rfl _ _ 31 rfl w.heap.size 41 i0 (.int .u64 0) 1 Try.underlying31 hi hz0 hz1 _ _ _ _ 0 rfl rfl rfl rfl ?b2 ?b3 (Nat.le_refl _) ?_)
    case b2 => rw [hz2]; omega
    case b3 => unfold maxLen; omega
    intro w0 hown0 hgrow0
    go_wp2
    refine wp_loop_rounds 1 ?_
    rw [rounds_succ]
    go_wp2
    go_ret
    exact ⟨_, rfl, (Below.refl _ _).grown hgrow0 (Nat.le_refl _) (fun k h => by cases h)⟩

theorem cloneBits_any {a : Option Addr} {n : Nat} {z : Nat → Int} (cap : Nat) (w : World) (hn : n ≤ 1048576) (hr : Reads .u64 w a n z) :
    Calls Try.prog 21 #[.slice a n cap] w fun e w' => ∃ a', e = .returned (.slice a' n n) ∧ Reads .u64 w' a' n z ∧ Below w.heap.size w w' := by
  rcases hr with rfl | ⟨b, o, rfl, hc⟩
  · exact (cloneBits_none a cap w).mono fun e w' ⟨a', h1, h2⟩ => ⟨a', h1, .inl rfl, h2⟩
  · exact cloneBits_some b o n cap z w hn hc

end Go.Proofs.Qxb6600284a
