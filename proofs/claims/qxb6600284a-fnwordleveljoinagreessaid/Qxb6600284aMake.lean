/- ZZMakeLevel: its contract. -/
import Derived.Test.Qxb6600284aWords
import Derived.BigRegion
namespace Go.Proofs.Qxb6600284a
open Go.RowKit

theorem make_none (a1 a2 : Option Addr) (c1 c2 : Nat) (s : Int) (w : World) :
    Calls Try.prog 23 #[.int .i64 s, .slice a1 0 c1, .slice a2 0 c2] w fun e w' => e = .returned (.agg #[.int .i64 s, .slice none 0 0]) ∧ Below w.heap.size w w' := by
  go_enter Try.func23, Try.ntmps23
  go_wp2
  refine bodyPost_ret (v := .agg #[.int .i64 s, .slice none 0 0]) (by simp [results, Try.results23, go_sem]) rfl ⟨rfl, ((Below.refl _ _).alloc (Nat.le_refl _) _).alloc (by simp) _⟩

set_option maxHeartbeats 1000000 in
theorem make_some (b1 o1 c1 b2 o2 c2 n : Nat) (z y : Nat → Int) (s : Int) (w : World) (hn : n ≤ 1048576) (hn1 : 1 ≤ n) (hc1 : ∀ i, i < n → w.cell? ⟨b1, o1 + i, none⟩ = some (.int .i64 (z i))) (hc2 : ∀ i, i < n → w.cell? ⟨b2, o2 + i, none⟩ = some (.int .u64 (y i))) :
    Calls Try.prog 23 #[.int .i64 s, .slice (some ⟨b1, o1, none⟩) n c1, .slice (some ⟨b2, o2, none⟩) n c2] w fun e w' => ∃ a', e = .returned (.agg #[.int .i64 s, .slice a' n n]) ∧ Words w' a' n z y ∧ Below w.heap.size w w' := by
  obtain ⟨i0, hi, hz0, hz1, hz2⟩ := info_parts info51
  go_enter Try.func23, Try.ntmps23
  go_wp2_with (at_make; refine wpList_make_full _ rfl _ _ 26 rfl w.heap.size 51 i0 (.agg #[.int .i64 0, .int .u64 0]) 2 Try.underlying26 hi hz0 hz1 _ _ _ _ n rfl rfl rfl rfl ?b2 ?b3 ?b4 ?_)
  case b2 => rw [hz2]; omega
  case b3 => unfold maxLen; omega
  case b4 => simp; omega
  intro w0 hown0 hgrow0
  have hbel : Below w.heap.size w w0 := (((Below.refl _ _).alloc (Nat.le_refl _) _).alloc (by simp) _).grown hgrow0 (by simp; omega) (fun k h => by cases h)
  obtain ⟨t1, t2, t3⟩ := two_alloc w (.cells #[.int .i64 0, .slice none 0 0] 36) (.cells #[.int .i64 s, .slice none 0 0] 36)
  have hR : w0.heap[w.heap.size]? = some (.cells #[.int .i64 0, .slice none 0 0] 36 (0, 0)) := (hgrow0.block _ (by rw [t3]; omega) (by simp)).trans t1
  have hL : w0.heap[w.heap.size + 1]? = some (.cells #[.int .i64 s, .slice none 0 0] 36 (0, 0)) := (hgrow0.block _ (by rw [t3]; omega) (by simp)).trans t2
  clear t1 t2 t3
  obtain ⟨l0, l1, l2, l3⟩ := two_cells hL
  have HR : Hid (w0.heap[w.heap.size]? = some (.cells #[.int .i64 0, .slice none 0 0] 36 (0, 0))) := hR
  have HL : Hid (w0.heap[w.heap.size + 1]? = some (.cells #[.int .i64 s, .slice none 0 0] 36 (0, 0))) := hL
  have HO : Hid (w0.ownsRow w.heap.size 51 2 (.slice (some ⟨w.heap.size + 1 + 1, 0, none⟩) n n) n (madeCells #[Value.int IntKind.i64 0, Value.int IntKind.u64 0] (n * 2)).toList) := hown0
  have HB : Hid (Below w.heap.size w w0) := hbel
  clear hR hL hown0 hbel hgrow0
  go_wp2
  go_loopw [9] (fun i wr => ∃ (k : Nat) (xs : List Value), k ≤ n ∧ i = .int .i64 k ∧ wr.ownsRow w.heap.size 51 2 (.slice (some ⟨w.heap.size + 1 + 1, 0, none⟩) n n) n xs ∧ (∀ j, j < k → xs[j * 2]? = some (.int .i64 (z j)) ∧ xs[j * 2 + 1]? = some (.int .u64 (y j))) ∧ Below w.heap.size w wr ∧
      wr.heap[w.heap.size]? = some (.cells #[.int .i64 0, .slice none 0 0] 36 (0, 0)) ∧ wr.heap[w.heap.size + 1]? = some (.cells #[.int .i64 s, .slice (some ⟨w.heap.size + 1 + 1, 0, none⟩) n n] 36 (0, 0))) (fun i _ => n - (intOf i).toNat)
  case atStart => exact ⟨0, _, Nat.zero_le _, rfl, own_other HO.out _ _ (by simp), fun j hj => by omega, HB.out.setCell (by simp) _, by rw [Below.heap_setCell _ _ _ _ (by simp)]; exact HR.out, heap_setCell_same _ _ _ _ _ _ HL.out⟩
  case round =>
    clear l0 l1 l2 l3 HO HR HL HB
    obtain ⟨k, xs, hk, rfl, hown, hs, hnx, hR, hL⟩ := hrel
    obtain ⟨l0, l1, l2, l3⟩ := two_cells hL
    obtain ⟨r0, r1, r2, r3⟩ := two_cells hR
    have HS : Hid (∀ j, j < k → xs[j * 2]? = some (.int .i64 (z j)) ∧ xs[j * 2 + 1]? = some (.int .u64 (y j))) := hs
    have HO : Hid (wr.ownsRow w.heap.size 51 2 (.slice (some ⟨w.heap.size + 1 + 1, 0, none⟩) n n) n xs) := hown
    have HR : Hid (wr.heap[w.heap.size]? = some (.cells #[.int .i64 0, .slice none 0 0] 36 (0, 0))) := hR
    have HL : Hid (wr.heap[w.heap.size + 1]? = some (.cells #[.int .i64 s, .slice (some ⟨w.heap.size + 1 + 1, 0, none⟩) n n] 36 (0, 0))) := hL
    have HB : Hid (Below w.heap.size w wr) := hnx
    clear hs hR hL
    by_cases hlt : k < n
    · have d1 : wr.cell? ⟨b1, o1 + k, none⟩ = some (.int .i64 (z k)) := by
        rw [hnx.cell (p := ⟨b1, o1 + k, none⟩) (World.block_lt_of_cell? w ⟨b1, o1 + k, none⟩ (hc1 k hlt))]; exact hc1 k hlt
      have d2 : wr.cell? ⟨b2, o2 + k, none⟩ = some (.int .u64 (y k)) := by
        rw [hnx.cell (p := ⟨b2, o2 + k, none⟩) (World.block_lt_of_cell? w ⟨b2, o2 + k, none⟩ (hc2 k hlt))]; exact hc2 k hlt
      obtain ⟨u, e1⟩ := own_cell hown (k * 2) (by omega)
      obtain ⟨u', e2⟩ := own_cell hown (k * 2 + 1) (by omega)
      have e3 := hown.frozenAt (k * 2)
      have e4 := hown.frozenAt (k * 2 + 1)
      have HXL : Hid (xs.length = n * 2) := hown.1
      clear hc1 hc2 hown hnx
      go_wp2
      go_region
      go_wp2
      go_roundw
      case rel => exact ⟨k + 1, (xs.set (k * 2) (.int .i64 (z k))).set (k * 2 + 1) (.int .u64 (y k)), by omega, by go_num, ((HO.out.stored (k * 2) _).1.stored (k * 2 + 1) _).1,
        set2_at (f := fun j => .int .i64 (z j)) (g := fun j => .int .u64 (y j)) HXL.out hlt HS.out, ((HB.out.drew).setCell (by simp; omega) _).setCell (by simp; omega) _,
        (heap_set2 _ _ _ _ _ _ (by simp; omega) (by simp; omega)).trans HR.out, (heap_set2 _ _ _ _ _ _ (by simp) (by simp)).trans HL.out⟩
      case measure => simp [intOf]; omega
    · clear hc1 hc2
      go_wp2
      refine bodyPost_ret (v := .agg #[.int .i64 s, .slice (some ⟨w.heap.size + 1 + 1, 0, none⟩) n n]) (by simp [results, Try.results23, go_sem, r0, r1]) rfl ⟨_, rfl, words_of_own (own_other (own_other HO.out _ _ (by simp; omega)) _ _ (by simp; omega)) (fun j hj => HS.out j (by omega)), (HB.out.setCell (by simp) _).setCell (by simp) _⟩
theorem make_any {a1 a2 : Option Addr} {n : Nat} {z y : Nat → Int} (c1 c2 : Nat) (s : Int) (w : World) (hn : n ≤ 1048576) (h1 : Reads .i64 w a1 n z) (h2 : Reads .u64 w a2 n y) :
    Calls Try.prog 23 #[.int .i64 s, .slice a1 n c1, .slice a2 n c2] w fun e w' => ∃ a' c', e = .returned (.agg #[.int .i64 s, .slice a' n c']) ∧ Words w' a' n z y ∧ Below w.heap.size w w' ∧ n ≤ c' := by
  by_cases h0 : n = 0
  · subst h0
    exact (make_none a1 a2 c1 c2 s w).mono fun e w' ⟨k1, k2⟩ => ⟨none, 0, k1, .inl rfl, k2, Nat.le_refl _⟩
  · rcases h1 with h1 | ⟨b1, o1, rfl, hc1⟩
    · exact absurd h1 h0
    rcases h2 with h2 | ⟨b2, o2, rfl, hc2⟩
    · exact absurd h2 h0
    exact (make_some b1 o1 c1 b2 o2 c2 n z y s w hn (by omega) hc1 hc2).mono fun e w' ⟨a', k1, k2, k3⟩ => ⟨a', n, k1, k2, k3, Nat.le_refl _⟩

end Go.Proofs.Qxb6600284a
