/- ZZLevelParts: its contract. -/
import Derived.Test.Qxb6600284aWords
import Derived.BigRegion
namespace Go.Proofs.Qxb6600284a
open Go.RowKit

theorem set1_at {n k : Nat} {xs ys : List Value} {f g : Nat → Value} (hl : xs.length = n * 1) (hm : ys.length = n * 1) (hk : k < n) (h : ∀ j, j < k → xs[j]? = some (f j) ∧ ys[j]? = some (g j)) :
    ∀ j, j < k + 1 → (xs.set k (f k))[j]? = some (f j) ∧ (ys.set k (g k))[j]? = some (g j) := by
  intro j hj
  by_cases e : j = k
  · subst e
    exact ⟨by rw [List.getElem?_set_self (by omega)], by rw [List.getElem?_set_self (by omega)]⟩
  · rw [List.getElem?_set_ne (by omega), List.getElem?_set_ne (by omega)]; exact h j (by omega)

set_option maxHeartbeats 1000000 in
theorem parts_some (b o n c : Nat) (z y : Nat → Int) (s : Int) (w : World) (hn : n ≤ 1048576) (hc : ∀ i, i < n → w.cell? ⟨b, o + i * 2, none⟩ = some (.int .i64 (z i)) ∧ w.cell? ⟨b, o + i * 2 + 1, none⟩ = some (.int .u64 (y i))) :
    Calls Try.prog 24 #[.agg #[.int .i64 s, .slice (some ⟨b, o, none⟩) n c]] w fun e w' => ∃ a1 a2, e = .returned (.tuple #[.int .i64 s, .slice a1 n n, .slice a2 n n]) ∧ Reads .i64 w' a1 n z ∧ Reads .u64 w' a2 n y ∧ Below w.heap.size w w' := by
  obtain ⟨i0, hi, hz0, hz1, hz2⟩ := info_parts info3
  obtain ⟨j0, hj, hy0, hy1, hy2⟩ := info_parts info41
  go_enter Try.func24, Try.ntmps24
  go_wp2_with (at_make; refine wpList_make_full _ rfl (.tmp 11) (.tmp 11) 22 rfl w.heap.size 3 i0 (.int .i64 0) 1 Try.underlying22 hi hz0 hz1 _ _ _ _ n rfl rfl rfl rfl ?b2 ?b3 ?b4 ?_)
  case b2 => rw [hz2]; omega
  case b3 => unfold maxLen; omega
  case b4 => simp
  intro w0 hown0 hgrow0
  have hL0 : w0.heap[w.heap.size]? = some (.cells #[.int .i64 s, .slice (some ⟨b, o, none⟩) n c] 36 (0, 0)) := (hgrow0.block _ (by simp) (by simp)).trans (heap_alloc_new w _)
  have hs0 : w.heap.size + 1 < w0.heap.size := by
    have := (hown0.lt (w.heap.size + 1) rfl).2
    omega
  have hb0 : Below w.heap.size w w0 := ((Below.refl _ _).alloc (Nat.le_refl _) _).grown hgrow0 (by simp) (fun k h => by cases h)
  obtain ⟨l0, l1, l2, l3⟩ := two_cells hL0
  have H0 : Hid (w0.ownsRow w.heap.size 3 1 (.slice (some ⟨w.heap.size + 1, 0, none⟩) n n) n (madeCells #[Value.int IntKind.i64 0] n).toList ∧ w0.heap[w.heap.size]? = some (.cells #[.int .i64 s, .slice (some ⟨b, o, none⟩) n c] 36 (0, 0)) ∧ Below w.heap.size w w0) := ⟨hown0, hL0, hb0⟩
  clear hown0 hgrow0 hL0 hb0
  go_wp2_with (at_make; refine wpList_make_full _ rfl (.tmp 15) (.tmp 15) 31 rfl w.heap.size 41 j0 (.int .u64 0) 1 Try.underlying31 hj hy0 hy1 _ _ _ _ n rfl rfl rfl rfl ?b5 ?b6 ?b7 ?_)
  case b5 => rw [hy2]; omega
  case b6 => unfold maxLen; omega
  case b7 => omega
  intro w1 hown1 hgrow1
  have hx1 : w1.ownsRow w.heap.size 3 1 (.slice (some ⟨w.heap.size + 1, 0, none⟩) n n) n (madeCells #[Value.int IntKind.i64 0] n).toList := H0.out.1.kept hgrow1 (.inr (by simp [Value.ownBlock]))
  have hL1 : w1.heap[w.heap.size]? = some (.cells #[.int .i64 s, .slice (some ⟨b, o, none⟩) n c] 36 (0, 0)) := (hgrow1.block _ (by omega) (by simp)).trans H0.out.2.1
  have hb1 : Below w.heap.size w w1 := H0.out.2.2.grown hgrow1 (by omega) (fun k h => by cases h)
  have hs1 : w0.heap.size < w1.heap.size := (hown1.lt w0.heap.size rfl).2
  obtain ⟨G, hG⟩ : ∃ G, G = w0.heap.size := ⟨_, rfl⟩
  rw [← hG] at hown1 hs0 hs1 ⊢
  clear l0 l1 l2 l3 H0 hgrow1 hG
  obtain ⟨l0, l1, l2, l3⟩ := two_cells hL1
  have H1 : Hid (w1.ownsRow w.heap.size 3 1 (.slice (some ⟨w.heap.size + 1, 0, none⟩) n n) n (madeCells #[Value.int IntKind.i64 0] n).toList ∧ w1.ownsRow w.heap.size 41 1 (.slice (some ⟨G, 0, none⟩) n n) n (madeCells #[Value.int IntKind.u64 0] n).toList ∧
    w1.heap[w.heap.size]? = some (.cells #[.int .i64 s, .slice (some ⟨b, o, none⟩) n c] 36 (0, 0)) ∧ Below w.heap.size w w1) := ⟨hx1, hown1, hL1, hb1⟩
  clear hx1 hown1 hL1 hb1
  go_wp2
  go_loopw [20] (fun i wr => ∃ (k : Nat) (xs ys : List Value), k ≤ n ∧ i = .int .i64 k ∧ wr.ownsRow w.heap.size 3 1 (.slice (some ⟨w.heap.size + 1, 0, none⟩) n n) n xs ∧ wr.ownsRow w.heap.size 41 1 (.slice (some ⟨G, 0, none⟩) n n) n ys ∧
      (∀ j, j < k → xs[j]? = some (.int .i64 (z j)) ∧ ys[j]? = some (.int .u64 (y j))) ∧ Below w.heap.size w wr ∧ wr.heap[w.heap.size]? = some (.cells #[.int .i64 s, .slice (some ⟨b, o, none⟩) n c] 36 (0, 0)) ∧ G < wr.heap.size) (fun i _ => n - (intOf i).toNat)
  case atStart => exact ⟨0, _, _, Nat.zero_le _, rfl, H1.out.1, H1.out.2.1, fun j hj => by omega, H1.out.2.2.2, H1.out.2.2.1, hs1⟩
  case round =>
    clear l0 l1 l2 l3 H1 hs1
    obtain ⟨k, xs, ys, hk, rfl, hox, hoy, hs, hnx, hL, hsz⟩ := hrel
    obtain ⟨l0, l1, l2, l3⟩ := two_cells hL
    have HS : Hid (∀ j, j < k → xs[j]? = some (.int .i64 (z j)) ∧ ys[j]? = some (.int .u64 (y j))) := hs
    have HX : Hid (wr.ownsRow w.heap.size 3 1 (.slice (some ⟨w.heap.size + 1, 0, none⟩) n n) n xs) := hox
    have HY : Hid (wr.ownsRow w.heap.size 41 1 (.slice (some ⟨G, 0, none⟩) n n) n ys) := hoy
    have HL : Hid (wr.heap[w.heap.size]? = some (.cells #[.int .i64 s, .slice (some ⟨b, o, none⟩) n c] 36 (0, 0))) := hL
    have HB : Hid (Below w.heap.size w wr) := hnx
    clear hs hL
    by_cases hlt : k < n
    · have d1 : wr.cell? ⟨b, o + k * 2, none⟩ = some (.int .i64 (z k)) := by
        rw [hnx.cell (p := ⟨b, o + k * 2, none⟩) (World.block_lt_of_cell? w ⟨b, o + k * 2, none⟩ (hc k hlt).1)]; exact (hc k hlt).1
      have d2 : wr.cell? ⟨b, o + k * 2 + 1, none⟩ = some (.int .u64 (y k)) := by
        rw [hnx.cell (p := ⟨b, o + k * 2 + 1, none⟩) (World.block_lt_of_cell? w ⟨b, o + k * 2 + 1, none⟩ (hc k hlt).2)]; exact (hc k hlt).2
      obtain ⟨u, e1⟩ := own_cell hox k (by omega)
      obtain ⟨u', e2⟩ := own_cell hoy k (by omega)
      have e3 := hox.frozenAt k
      have e4 := hoy.frozenAt k
      have HXL : Hid (xs.length = n * 1 ∧ ys.length = n * 1) := ⟨hox.1, hoy.1⟩
      clear hc hox hoy hnx
      have g1 : w.heap.size + 1 < wr.heap.size := by omega
      have g2 : ¬ w.heap.size + 1 = wr.heap.size := by omega
      have g3 : ¬ wr.heap.size = w.heap.size + 1 := by omega
      have g4 : ¬ G = wr.heap.size := by omega
      have g5 : ¬ wr.heap.size = G := by omega
      have g6 : ¬ w.heap.size + 1 = G := by omega
      have g7 : ¬ G = w.heap.size + 1 := by omega
      go_wp2
      go_roundw
      case rel => exact ⟨k + 1, xs.set k (.int .i64 (z k)), ys.set k (.int .u64 (y k)), by omega, by go_num, (own_other (HX.out.stored k _).1 _ _ (by simpa using g6)).alloc _, ((own_other HY.out _ _ (by simpa using g7)).stored k _).1.alloc _,
        set1_at (f := fun j => .int .i64 (z j)) (g := fun j => .int .u64 (y j)) HXL.out.1 HXL.out.2 hlt HS.out, ((HB.out.setCell (by simp) _).setCell (by simp; omega) _).alloc (by simp; omega) _,
        by rw [Below.heap_alloc _ _ _ (by simp; omega)]; exact (heap_set2 _ _ _ _ _ _ (by simp) (by simp; omega)).trans HL.out, by simp; omega⟩
      case measure => simp [intOf]; omega
    · clear hc
      go_wp2
      go_ret3
      exact ⟨_, _, rfl, .inr ⟨_, 0, rfl, fun i hi => by rw [Nat.zero_add, hox.cellAt i (by omega)]; exact (HS.out i (by omega)).1⟩, .inr ⟨_, 0, rfl, fun i hi => by rw [Nat.zero_add, hoy.cellAt i (by omega)]; exact (HS.out i (by omega)).2⟩, HB.out⟩

theorem parts_none (a : Option Addr) (c : Nat) (s : Int) (w : World) :
    Calls Try.prog 24 #[.agg #[.int .i64 s, .slice a 0 c]] w fun e w' => ∃ a1 a2, e = .returned (.tuple #[.int .i64 s, .slice a1 0 0, .slice a2 0 0]) ∧ Below w.heap.size w w' := by
  obtain ⟨i0, hi, hz0, hz1, hz2⟩ := info_parts info3
  obtain ⟨j0, hj, hy0, hy1, hy2⟩ := info_parts info41
  go_enter Try.func24, Try.ntmps24
  go_wp2_with (at_make; refine wpList_make_full _ rfl (.tmp 11) (.tmp 11) 22 rfl w.heap.size 3 i0 (.int .i64 0) 1 Try.underlying22 hi hz0 hz1 _ _ _ _ 0 rfl rfl rfl rfl ?b2 ?b3 ?b4 ?_)
  case b2 => rw [hz2]; omega
  case b3 => unfold maxLen; omega
  case b4 => simp
  intro w0 hown0 hgrow0
  have hL0 : w0.heap[w.heap.size]? = some (.cells #[.int .i64 s, .slice a 0 c] 36 (0, 0)) := (hgrow0.block _ (by simp) (by simp)).trans (heap_alloc_new w _)
  have hs0 : w.heap.size + 1 < w0.heap.size := by
    have := (hown0.lt (w.heap.size + 1) rfl).2
    omega
  have hb0 : Below w.heap.size w w0 := ((Below.refl _ _).alloc (Nat.le_refl _) _).grown hgrow0 (by simp) (fun k h => by cases h)
  obtain ⟨l0, l1, l2, l3⟩ := two_cells hL0
  have H0 : Hid (w0.heap[w.heap.size]? = some (.cells #[.int .i64 s, .slice a 0 c] 36 (0, 0)) ∧ Below w.heap.size w w0) := ⟨hL0, hb0⟩
  clear hown0 hgrow0 hL0 hb0
  go_wp2_with (at_make; refine wpList_make_full _ rfl (.tmp 15) (.tmp 15) 31 rfl w.heap.size 41 j0 (.int .u64 0) 1 Try.underlying31 hj hy0 hy1 _ _ _ _ 0 rfl rfl rfl rfl ?b5 ?b6 ?b7 ?_)
  case b5 => rw [hy2]; omega
  case b6 => unfold maxLen; omega
  case b7 => omega
  intro w1 hown1 hgrow1
  have hL1 : w1.heap[w.heap.size]? = some (.cells #[.int .i64 s, .slice a 0 c] 36 (0, 0)) := (hgrow1.block _ (by omega) (by simp)).trans H0.out.1
  have hb1 : Hid (Below w.heap.size w w1) := H0.out.2.grown hgrow1 (by omega) (fun k h => by cases h)
  clear l0 l1 l2 l3 H0 hgrow1 hown1
  obtain ⟨l0, l1, l2, l3⟩ := two_cells hL1
  clear hL1
  go_wp2
  refine wp_loop_rounds 1 ?_
  rw [rounds_succ]
  go_wp2
  go_ret3
  exact ⟨_, _, rfl, hb1.out⟩

theorem parts_any {a : Option Addr} {n : Nat} {z y : Nat → Int} (c : Nat) (s : Int) (w : World) (hn : n ≤ 1048576) (h : Words w a n z y) :
    Calls Try.prog 24 #[.agg #[.int .i64 s, .slice a n c]] w fun e w' => ∃ a1 a2, e = .returned (.tuple #[.int .i64 s, .slice a1 n n, .slice a2 n n]) ∧ Reads .i64 w' a1 n z ∧ Reads .u64 w' a2 n y ∧ Below w.heap.size w w' := by
  rcases h with rfl | ⟨b, o, rfl, hc⟩
  · exact (parts_none a c s w).mono fun e w' ⟨a1, a2, k1, k2⟩ => ⟨a1, a2, k1, .inl rfl, .inl rfl, k2⟩
  · exact parts_some b o n c z y s w hn hc

end Go.Proofs.Qxb6600284a
