/- buildSteps: its contract. -/
import Derived.Test.Qxb6600327aInts
namespace Go.Proofs.Qxb6600327a
open Go.RowKit

theorem info61 : (Try.prog.info? 61).map (fun i => (i.zero, i.size, i.bytes)) = some (some (.agg #[.pointer none, .pointer none]), 2, 16) := by kernel_rfl

/-- The first k of the row's steps point at their numbers. -/
def Ptrs (w : World) (B k : Nat) (xs : List Value) (zf ze : Nat → Int) : Prop :=
  ∀ j, j < k → ∃ p q, xs[j * 2]? = some (.pointer (some ⟨p, 0, none⟩)) ∧ xs[j * 2 + 1]? = some (.pointer (some ⟨q, 0, none⟩)) ∧ B < p ∧ B < q ∧ w.cell? ⟨p, 0, none⟩ = some (.int .i64 (zf j)) ∧ w.cell? ⟨q, 0, none⟩ = some (.int .i64 (ze j))

/-- A row of m steps in memory. -/
def StepsAt (w : World) (g m : Nat) (zf ze : Nat → Int) : Prop :=
  ∀ j, j < m → ∃ p q, w.cell? ⟨g, j * 2, none⟩ = some (.pointer (some ⟨p, 0, none⟩)) ∧ w.cell? ⟨g, j * 2 + 1, none⟩ = some (.pointer (some ⟨q, 0, none⟩)) ∧ w.cell? ⟨p, 0, none⟩ = some (.int .i64 (zf j)) ∧ w.cell? ⟨q, 0, none⟩ = some (.int .i64 (ze j))

theorem StepsAt.below {w w' : World} {g m : Nat} {zf ze : Nat → Int} (h : StepsAt w g m zf ze) (hb : Below w.heap.size w w') : StepsAt w' g m zf ze := fun j hj => by
  obtain ⟨p, q, h1, h2, h3, h4⟩ := h j hj
  refine ⟨p, q, ?_, ?_, ?_, ?_⟩
  · rw [hb.cell (p := ⟨g, j * 2, none⟩) (World.block_lt_of_cell? w ⟨g, j * 2, none⟩ h1)]; exact h1
  · rw [hb.cell (p := ⟨g, j * 2 + 1, none⟩) (World.block_lt_of_cell? w ⟨g, j * 2 + 1, none⟩ h2)]; exact h2
  · rw [hb.cell (p := ⟨p, 0, none⟩) (World.block_lt_of_cell? w ⟨p, 0, none⟩ h3)]; exact h3
  · rw [hb.cell (p := ⟨q, 0, none⟩) (World.block_lt_of_cell? w ⟨q, 0, none⟩ h4)]; exact h4

theorem ptrs_step {wr w' : World} {B k m : Nat} {xs : List Value} {zf ze : Nat → Int} (hl : xs.length = m * 2) (hk : k < m) (h : Ptrs wr B k xs zf ze) (p q : Nat) (hp : B < p) (hq : B < q)
    (h1 : w'.cell? ⟨p, 0, none⟩ = some (.int .i64 (zf k))) (h2 : w'.cell? ⟨q, 0, none⟩ = some (.int .i64 (ze k))) (hold : ∀ r, B < r → r < wr.heap.size → w'.cell? ⟨r, 0, none⟩ = wr.cell? ⟨r, 0, none⟩) :
    Ptrs w' B (k + 1) ((xs.set (k * 2) (.pointer (some ⟨p, 0, none⟩))).set (k * 2 + 1) (.pointer (some ⟨q, 0, none⟩))) zf ze := by
  intro j hj
  by_cases e : j = k
  · subst e
    exact ⟨p, q, by rw [List.getElem?_set_ne (by omega), List.getElem?_set_self (by omega)], by rw [List.getElem?_set_self (by simp; omega)], hp, hq, h1, h2⟩
  · obtain ⟨p', q', k1, k2, k3, k4, k5, k6⟩ := h j (by omega)
    exact ⟨p', q', by rw [List.getElem?_set_ne (by omega), List.getElem?_set_ne (by omega)]; exact k1, by rw [List.getElem?_set_ne (by omega), List.getElem?_set_ne (by omega)]; exact k2, k3, k4,
      (hold p' k3 (World.block_lt_of_cell? wr ⟨p', 0, none⟩ k5)).trans k5, (hold q' k4 (World.block_lt_of_cell? wr ⟨q', 0, none⟩ k6)).trans k6⟩

theorem steps_world (wr : World) (B i j : Nat) (x y u v : Value) :
    ((((wr.setCell ⟨B, i, none⟩ x).setCell ⟨B, j, none⟩ y).alloc (.cells #[u] 3)).alloc (.cells #[v] 3)).cell? ⟨wr.heap.size, 0, none⟩ = some u ∧
    ((((wr.setCell ⟨B, i, none⟩ x).setCell ⟨B, j, none⟩ y).alloc (.cells #[u] 3)).alloc (.cells #[v] 3)).cell? ⟨wr.heap.size + 1, 0, none⟩ = some v ∧
    (∀ r, B < r → r < wr.heap.size → ((((wr.setCell ⟨B, i, none⟩ x).setCell ⟨B, j, none⟩ y).alloc (.cells #[u] 3)).alloc (.cells #[v] 3)).cell? ⟨r, 0, none⟩ = wr.cell? ⟨r, 0, none⟩) ∧
    ((((wr.setCell ⟨B, i, none⟩ x).setCell ⟨B, j, none⟩ y).alloc (.cells #[u] 3)).alloc (.cells #[v] 3)).heap.size = wr.heap.size + 2 := by
  obtain ⟨V, hV⟩ : ∃ V, V = (wr.setCell ⟨B, i, none⟩ x).setCell ⟨B, j, none⟩ y := ⟨_, rfl⟩
  have hs : V.heap.size = wr.heap.size := by rw [hV]; simp
  have hb : ∀ r, B < r → V.heap[r]? = wr.heap[r]? := fun r hr => by
    rw [hV, Below.heap_setCell _ _ _ _ (by simp; omega), Below.heap_setCell _ _ _ _ (by simp; omega)]
  rw [← hV]
  have a1 : ((V.alloc (.cells #[u] 3)).alloc (.cells #[v] 3)).heap[wr.heap.size]? = some (.cells #[u] 3) := by
    rw [Below.heap_alloc _ _ _ (by simp; omega), ← hs, heap_alloc_new]
  have a2 : ((V.alloc (.cells #[u] 3)).alloc (.cells #[v] 3)).heap[wr.heap.size + 1]? = some (.cells #[v] 3) := by
    have h := heap_alloc_new (V.alloc (.cells #[u] 3)) (.cells #[v] 3)
    have e : (V.alloc (.cells #[u] 3)).heap.size = wr.heap.size + 1 := by simp; exact hs
    rwa [e] at h
  refine ⟨by rw [cell_of_row _ _ 0 _ 3 (0, 0) a1]; rfl, by rw [cell_of_row _ _ 0 _ 3 (0, 0) a2]; rfl, fun r h1 h2 => ?_, by simp; exact hs⟩
  exact World.cell?_of_block (a := ⟨r, 0, none⟩) ((Below.heap_alloc _ _ _ (by simp; omega)).trans ((Below.heap_alloc _ _ _ (by show r < V.heap.size; omega)).trans (hb r h1)))

set_option maxHeartbeats 2000000 in
theorem steps_some (b1 o1 c1 b2 o2 c2 n1 n2 m : Nat) (zf ze : Nat → Int) (w : World) (hm : m = min n1 n2) (hn1 : n1 ≤ 16384) (hn2 : n2 ≤ 16384) (hc1 : ∀ i, i < n1 → w.cell? ⟨b1, o1 + i, none⟩ = some (.int .i64 (zf i))) (hc2 : ∀ i, i < n2 → w.cell? ⟨b2, o2 + i, none⟩ = some (.int .i64 (ze i))) :
    Calls Try.prog 15 #[.slice (some ⟨b1, o1, none⟩) n1 c1, .slice (some ⟨b2, o2, none⟩) n2 c2] w fun e w' => ∃ g, e = .returned (.slice (some ⟨g, 0, none⟩) m m) ∧ StepsAt w' g m zf ze ∧ Below w.heap.size w w' := by
  obtain ⟨i0, hi, hz0, hz1, hz2⟩ := info_parts info61
  have hmn1 : m ≤ n1 := by omega
  have hmn2 : m ≤ n2 := by omega
  have hcase : (n2 < n1 ∧ m = n2) ∨ (n1 ≤ n2 ∧ m = n1) := by omega
  clear hm
  rcases hcase with ⟨hlt, rfl⟩ | ⟨hlt, rfl⟩
  all_goals
    go_enter Try.func15, Try.ntmps15
    go_wp2_with (at_make; refine wpList_make_full _ rfl _ _ 30 rfl w.heap.size 61 i0 (.agg #[.pointer none, .pointer none]) 2 Try.underlying30 hi hz0 hz1 _ _ _ _ _ rfl rfl rfl rfl (by rw [hz2]; omega) (by unfold maxLen; omega) (Nat.le_refl _) ?_)
    intro w0 hown0 hgrow0
    go_wp2
    go_loopw [7] (fun i wr => ∃ (k : Nat) (xs : List Value), k ≤ m ∧ i = .int .i64 k ∧ wr.ownsRow w.heap.size 61 2 (.slice (some ⟨w.heap.size, 0, none⟩) m m) m xs ∧ Ptrs wr w.heap.size k xs zf ze ∧ Below w.heap.size w wr ∧ w.heap.size < wr.heap.size) (fun i _ => m - (intOf i).toNat)
    case atStart => exact ⟨0, _, Nat.zero_le _, rfl, hown0, fun j hj => by omega, (Below.refl _ _).grown hgrow0 (Nat.le_refl _) (fun k h => by cases h), (hown0.lt w.heap.size rfl).2⟩
    case round =>
      obtain ⟨k, xs, hk, rfl, hown, hs, hnx, hsz⟩ := hrel
      have HS : Hid (Ptrs wr w.heap.size k xs zf ze) := hs
      clear hs hown0 hgrow0
      by_cases hkm : k < m
      · have hl := hown.1
        have d1 : wr.cell? ⟨b1, o1 + k, none⟩ = some (.int .i64 (zf k)) := by
          rw [hnx.cell (p := ⟨b1, o1 + k, none⟩) (World.block_lt_of_cell? w ⟨b1, o1 + k, none⟩ (hc1 k (by omega)))]; exact hc1 k (by omega)
        have d2 : wr.cell? ⟨b2, o2 + k, none⟩ = some (.int .i64 (ze k)) := by
          rw [hnx.cell (p := ⟨b2, o2 + k, none⟩) (World.block_lt_of_cell? w ⟨b2, o2 + k, none⟩ (hc2 k (by omega)))]; exact hc2 k (by omega)
        have hb1 : b1 < w.heap.size := World.block_lt_of_cell? w ⟨b1, o1 + k, none⟩ (hc1 k (by omega))
        have hb2 : b2 < w.heap.size := World.block_lt_of_cell? w ⟨b2, o2 + k, none⟩ (hc2 k (by omega))
        obtain ⟨u, e1⟩ := own_cell hown (k * 2) (by omega)
        obtain ⟨u', e2⟩ := own_cell hown (k * 2 + 1) (by omega)
        have e3 := hown.frozenAt (k * 2)
        have e4 := hown.frozenAt (k * 2 + 1)
        have HO : Hid (wr.ownsRow w.heap.size 61 2 (.slice (some ⟨w.heap.size, 0, none⟩) m m) m xs) := hown
        have HL : Hid (xs.length = m * 2) := hl
        have hb1' : b1 < wr.heap.size := by omega
        have hb2' : b2 < wr.heap.size := by omega
        have f1 : ¬ w.heap.size = b2 := by omega
        have f2 : ¬ w.heap.size = wr.heap.size := by omega
        have f3 : ¬ wr.heap.size = w.heap.size := by omega
        clear hc1 hc2 hown hl
        go_wp2
        go_roundw
        case rel =>
          obtain ⟨g1, g2, g3, g4⟩ := steps_world wr w.heap.size (k * 2) (k * 2 + 1) (.pointer (some ⟨wr.heap.size, 0, none⟩)) (.pointer (some ⟨wr.heap.size + 1, 0, none⟩)) (.int .i64 (zf k)) (.int .i64 (ze k))
          exact ⟨k + 1, (xs.set (k * 2) (.pointer (some ⟨wr.heap.size, 0, none⟩))).set (k * 2 + 1) (.pointer (some ⟨wr.heap.size + 1, 0, none⟩)), by omega, by go_num, ((((HO.out.stored (k * 2) _).1.stored (k * 2 + 1) _).1.alloc _).alloc _),
            ptrs_step HL.out hkm HS.out _ _ hsz (by omega) g1 g2 g3, (((hnx.setCell (Nat.le_refl _) _).setCell (Nat.le_refl _) _).alloc (by simp; omega) _).alloc (by simp; omega) _, by rw [g4]; omega⟩
        case measure => simp [intOf]; omega
      · clear hc1 hc2
        go_wp2
        go_ret
        refine ⟨_, rfl, fun j hj => ?_, hnx⟩
        obtain ⟨p, q, k1, k2, _, _, k5, k6⟩ := HS.out j (by omega)
        exact ⟨p, q, by rw [hown.cellAt (j * 2) (by omega)]; exact k1, by rw [hown.cellAt (j * 2 + 1) (by omega)]; exact k2, k5, k6⟩
theorem steps_none (a1 a2 : Option Addr) (c1 c2 n1 n2 : Nat) (w : World) (h : n1 = 0 ∨ n2 = 0) (hn1 : n1 ≤ 16384) (hn2 : n2 ≤ 16384) :
    Calls Try.prog 15 #[.slice a1 n1 c1, .slice a2 n2 c2] w fun e w' => ∃ g, e = .returned (.slice (some ⟨g, 0, none⟩) 0 0) ∧ Below w.heap.size w w' := by
  obtain ⟨i0, hi, hz0, hz1, hz2⟩ := info_parts info61
  rcases Nat.eq_zero_or_pos n2 with rfl | hp
  · rcases Nat.eq_zero_or_pos n1 with rfl | hp1
    all_goals
      go_enter Try.func15, Try.ntmps15
      go_wp2_with (at_make; refine wpList_make_full _ rfl _ _ 30 rfl w.heap.size 61 i0 (.agg #[.pointer none, .pointer none]) 2 Try.underlying30 hi hz0 hz1 _ _ _ _ 0 rfl rfl rfl rfl (by rw [hz2]; omega) (by unfold maxLen; omega) (Nat.le_refl _) ?_)
      intro w0 hown0 hgrow0
      go_wp2
      refine wp_loop_rounds 1 ?_
      rw [rounds_succ]
      go_wp2
      go_ret
      exact ⟨_, rfl, (Below.refl _ _).grown hgrow0 (Nat.le_refl _) (fun k h => by cases h)⟩
  · obtain rfl : n1 = 0 := by omega
    go_enter Try.func15, Try.ntmps15
    go_wp2_with (at_make; refine wpList_make_full _ rfl _ _ 30 rfl w.heap.size 61 i0 (.agg #[.pointer none, .pointer none]) 2 Try.underlying30 hi hz0 hz1 _ _ _ _ 0 rfl rfl rfl rfl (by rw [hz2]; omega) (by unfold maxLen; omega) (Nat.le_refl _) ?_)
    intro w0 hown0 hgrow0
    go_wp2
    refine wp_loop_rounds 1 ?_
    rw [rounds_succ]
    go_wp2
    go_ret
    exact ⟨_, rfl, (Below.refl _ _).grown hgrow0 (Nat.le_refl _) (fun k h => by cases h)⟩

theorem steps_any {a1 a2 : Option Addr} (c1 c2 n1 n2 : Nat) {zf ze : Nat → Int} (w : World) (hn1 : n1 ≤ 16384) (hn2 : n2 ≤ 16384) (h1 : Reads w a1 n1 zf) (h2 : Reads w a2 n2 ze) :
    Calls Try.prog 15 #[.slice a1 n1 c1, .slice a2 n2 c2] w fun e w' => ∃ g, e = .returned (.slice (some ⟨g, 0, none⟩) (min n1 n2) (min n1 n2)) ∧ StepsAt w' g (min n1 n2) zf ze ∧ Below w.heap.size w w' := by
  by_cases h0 : n1 = 0 ∨ n2 = 0
  · rw [show min n1 n2 = 0 by omega]
    exact (steps_none a1 a2 c1 c2 n1 n2 w h0 hn1 hn2).mono fun e w' ⟨g, k1, k2⟩ => ⟨g, k1, fun j hj => by omega, k2⟩
  · rcases h1 with h1 | ⟨b1, o1, rfl, hc1⟩
    · omega
    rcases h2 with h2 | ⟨b2, o2, rfl, hc2⟩
    · omega
    exact steps_some b1 o1 c1 b2 o2 c2 n1 n2 _ zf ze w rfl hn1 hn2 hc1 hc2

end Go.Proofs.Qxb6600327a
