/- ZZWords: its contract. -/
import Derived.Test.Qxb6600284aClone
namespace Go.Proofs.Qxb6600284a
open Go.RowKit

/-- A block of two cells, none of them frozen. -/
theorem two_cells {w : World} {g e : Nat} {u v : Value} (h : w.heap[g]? = some (.cells #[u, v] e (0, 0))) :
    w.cell? ⟨g, 0, none⟩ = some u ∧ w.cell? ⟨g, 1, none⟩ = some v ∧ w.frozen? ⟨g, 0, none⟩ = false ∧ w.frozen? ⟨g, 1, none⟩ = false :=
  ⟨by rw [cell_of_row w g 0 _ e (0, 0) h]; rfl, by rw [cell_of_row w g 1 _ e (0, 0) h]; rfl, frozen_of_row w g 0 _ e h, frozen_of_row w g 1 _ e h⟩

theorem two_alloc (w : World) (o1 o2 : Obj) : ((w.alloc o1).alloc o2).heap[w.heap.size]? = some o1 ∧ ((w.alloc o1).alloc o2).heap[w.heap.size + 1]? = some o2 ∧ ((w.alloc o1).alloc o2).heap.size = w.heap.size + 2 := by
  refine ⟨?_, ?_, by simp⟩
  · rw [Below.heap_alloc _ _ _ (by simp), heap_alloc_new]
  · have h := heap_alloc_new (w.alloc o1) o2
    have e : (w.alloc o1).heap.size = w.heap.size + 1 := by simp
    rwa [e] at h

theorem gby_setCell (w : World) (a : Addr) (u : Value) : w.grownBy (w.setCell a u) (some a.block) :=
  ⟨rfl, rfl, rfl, by simp, fun k _ hk => Below.heap_setCell _ _ _ _ (fun e => hk (by rw [e]))⟩

theorem heap_set2 (w : World) (a1 a2 : Addr) (u1 u2 : Value) (k : Nat) (h1 : k ≠ a1.block) (h2 : k ≠ a2.block) : ((w.setCell a1 u1).setCell a2 u2).heap[k]? = w.heap[k]? := by
  rw [Below.heap_setCell _ _ _ _ h2, Below.heap_setCell _ _ _ _ h1]

theorem words_of_own {w : World} {base g n cap : Nat} {z y : Nat → Int} {xs : List Value} (h : w.ownsRow base 51 2 (.slice (some ⟨g, 0, none⟩) n cap) n xs)
    (hs : ∀ j, j < n → xs[j * 2]? = some (.int .i64 (z j)) ∧ xs[j * 2 + 1]? = some (.int .u64 (y j))) : Words w (some ⟨g, 0, none⟩) n z y :=
  .inr ⟨g, 0, rfl, fun i hi => by rw [Nat.zero_add, h.cellAt (i * 2) (by omega), h.cellAt (i * 2 + 1) (by omega)]; exact hs i hi⟩

theorem own_other {w : World} {base e size g n cap : Nat} {xs : List Value} (h : w.ownsRow base e size (.slice (some ⟨g, 0, none⟩) n cap) n xs) (a : Addr) (u : Value) (hne : g ≠ a.block) :
    (w.setCell a u).ownsRow base e size (.slice (some ⟨g, 0, none⟩) n cap) n xs :=
  h.kept (gby_setCell w a u) (.inr (by simp [Value.ownBlock]; exact hne))

theorem set2_at {n k : Nat} {xs : List Value} {f g : Nat → Value} (hl : xs.length = n * 2) (hk : k < n) (h : ∀ j, j < k → xs[j * 2]? = some (f j) ∧ xs[j * 2 + 1]? = some (g j)) :
    ∀ j, j < k + 1 → ((xs.set (k * 2) (f k)).set (k * 2 + 1) (g k))[j * 2]? = some (f j) ∧ ((xs.set (k * 2) (f k)).set (k * 2 + 1) (g k))[j * 2 + 1]? = some (g j) := by
  intro j hj
  by_cases e : j = k
  · subst e
    exact ⟨by rw [List.getElem?_set_ne (by omega), List.getElem?_set_self (by omega)], by rw [List.getElem?_set_self (by simp; omega)]⟩
  · obtain ⟨h1, h2⟩ := h j (by omega)
    exact ⟨by rw [List.getElem?_set_ne (by omega), List.getElem?_set_ne (by omega)]; exact h1, by rw [List.getElem?_set_ne (by omega), List.getElem?_set_ne (by omega)]; exact h2⟩

set_option maxHeartbeats 400000 in
theorem words_some (b o n cap : Nat) (z : Nat → Int) (w : World) (hn : n ≤ 1048576) (hc : ∀ i, i < n → w.cell? ⟨b, o + i, none⟩ = some (.int .i64 (z i))) :
    Calls Try.prog 14 #[.slice (some ⟨b, o, none⟩) n cap] w fun e w' => ∃ a', e = .returned (.slice a' n n) ∧ Words w' a' n z (fun _ => 0) ∧ Below w.heap.size w w' := by
  obtain ⟨i0, hi, hz0, hz1, hz2⟩ := info_parts info51
  go_enter Try.func14, Try.ntmps14
  go_wp2_with (at_make; refine wpList_make_full _ rfl _ _ 26 rfl w.heap.size 51 i0 (.agg #[.int .i64 0, .int .u64 0]) 2 Try.underlying26 hi hz0 hz1 _ _ _ _ n rfl rfl rfl rfl ?b2 ?b3 (Nat.le_refl _) ?_)
  case b2 => rw [hz2]; omega
  case b3 => unfold maxLen; omega
  intro w0 hown0 hgrow0
  go_wp2
  go_loopw [11] (fun i wr => ∃ (k : Nat) (xs : List Value), k ≤ n ∧ i = .int .i64 k ∧ wr.ownsRow w.heap.size 51 2 (.slice (some ⟨w.heap.size, 0, none⟩) n n) n xs ∧ (∀ j, j < k → xs[j * 2]? = some (.int .i64 (z j)) ∧ xs[j * 2 + 1]? = some (.int .u64 0)) ∧ Below w.heap.size w wr) (fun i _ => n - (intOf i).toNat)
  case atStart => exact ⟨0, _, Nat.zero_le _, rfl, hown0, fun j hj => by omega, (Below.refl _ _).grown hgrow0 (Nat.le_refl _) (fun k h => by cases h)⟩
  case round =>
    obtain ⟨k, xs, hk, rfl, hown, hs, hnx⟩ := hrel
    have HS : Hid (∀ j, j < k → xs[j * 2]? = some (.int .i64 (z j)) ∧ xs[j * 2 + 1]? = some (.int .u64 0)) := hs
    clear hs hown0 hgrow0
    by_cases hlt : k < n
    · have hl := hown.1
      have c0 : wr.cell? ⟨b, o + k, none⟩ = some (.int .i64 (z k)) := by
        rw [hnx.cell (p := ⟨b, o + k, none⟩) (World.block_lt_of_cell? w ⟨b, o + k, none⟩ (hc k hlt))]; exact hc k hlt
      obtain ⟨u, c1⟩ := own_cell hown (k * 2) (by omega)
      obtain ⟨u', c1'⟩ := own_cell hown (k * 2 + 1) (by omega)
      have c2 := hown.frozenAt (k * 2)
      have c3 := hown.frozenAt (k * 2 + 1)
      have HO : Hid (wr.ownsRow w.heap.size 51 2 (.slice (some ⟨w.heap.size, 0, none⟩) n n) n xs) := hown
      have HL : Hid (xs.length = n * 2) := hl
      clear hc hown hl
      go_wp2
      go_roundw
      case rel => exact ⟨k + 1, (xs.set (k * 2) (.int .i64 (z k))).set (k * 2 + 1) (.int .u64 0), by omega, by go_num, ((HO.out.stored (k * 2) _).1.stored (k * 2 + 1) _).1,
        set2_at (f := fun j => .int .i64 (z j)) (g := fun _ => .int .u64 0) HL.out hlt HS.out, (hnx.setCell (Nat.le_refl _) _).setCell (Nat.le_refl _) _⟩
      case measure => simp [intOf]; omega
    · go_wp2
      go_ret
      exact ⟨_, rfl, .inr ⟨_, 0, rfl, fun i hi => by rw [Nat.zero_add, hown.cellAt (i * 2) (by omega), hown.cellAt (i * 2 + 1) (by omega)]; exact HS.out i (by omega)⟩, hnx⟩

theorem words_none (a : Option Addr) (cap : Nat) (w : World) :
    Calls Try.prog 14 #[.slice a 0 cap] w fun e w' => ∃ a', e = .returned (.slice a' 0 0) ∧ Below w.heap.size w w' := by
  obtain ⟨i0, hi, hz0, hz1, hz2⟩ := info_parts info51
  go_enter Try.func14, Try.ntmps14
  go_wp2_with (at_make; refine wpList_make_full _ rfl _ _ 26 rfl w.heap.size 51 i0 (.agg #[.int .i64 0, .int .u64 0]) 2 Try.underlying26 hi hz0 hz1 _ _ _ _ 0 rfl rfl rfl rfl ?b2 ?b3 (Nat.le_refl _) ?_)
  case b2 => rw [hz2]; omega
  case b3 => unfold maxLen; omega
  intro w0 hown0 hgrow0
  go_wp2
  refine wp_loop_rounds 1 ?_
  rw [rounds_succ]
  go_wp2
  go_ret
  exact ⟨_, rfl, (Below.refl _ _).grown hgrow0 (Nat.le_refl _) (fun k h => by cases h)⟩

theorem words_any {a : Option Addr} {n : Nat} {z : Nat → Int} (cap : Nat) (w : World) (hn : n ≤ 1048576) (hr : Reads .i64 w a n z) :
    Calls Try.prog 14 #[.slice a n cap] w fun e w' => ∃ a', e = .returned (.slice a' n n) ∧ Words w' a' n z (fun _ => 0) ∧ Below w.heap.size w w' := by
  rcases hr with rfl | ⟨b, o, rfl, hc⟩
  · exact (words_none a cap w).mono fun e w' ⟨a', h1, h2⟩ => ⟨a', h1, .inl rfl, h2⟩
  · exact words_some b o n cap z w hn hc

end Go.Proofs.Qxb6600284a
