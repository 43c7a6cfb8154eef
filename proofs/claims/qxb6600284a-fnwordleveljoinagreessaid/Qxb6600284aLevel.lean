/- wordLevel.level, ZZWordLevelLevel: their contracts. -/
import Derived.Test.Qxb6600284aWords
import Derived.BigRegion
import Derived.Deep.RegionLaw
import Derived.Deep.AppendLies
namespace Go.Proofs.Qxb6600284a
open Go.RowKit

/-- The words that 'level' lays: of the first n places those with bits. -/
def lay (z y : Nat → Int) : Nat → List (Int × Int)
  | 0 => []
  | n + 1 => lay z y n ++ (if y n = 0 then [] else [(z n, y n)])

theorem lay_le (z y : Nat → Int) (n : Nat) : (lay z y n).length ≤ n := by
  induction n with
  | zero => simp [lay]
  | succ n ih => rw [lay]; split <;> simp <;> omega

/-- The cells of words. -/
def cellsOfWords : List (Int × Int) → List Value
  | [] => []
  | p :: ps => .int .i64 p.1 :: .int .u64 p.2 :: cellsOfWords ps

theorem cellsOfWords_append (a b : List (Int × Int)) : cellsOfWords (a ++ b) = cellsOfWords a ++ cellsOfWords b := by
  induction a with
  | nil => rfl
  | cons p ps ih => simp [cellsOfWords, ih]

theorem cellsOfWords_get (a : List (Int × Int)) : ∀ i, i < a.length → (cellsOfWords a)[i * 2]? = some (.int .i64 (a.getD i (0, 0)).1) ∧ (cellsOfWords a)[i * 2 + 1]? = some (.int .u64 (a.getD i (0, 0)).2) := by
  induction a with
  | nil => intro i hi; simp at hi
  | cons p ps ih =>
    intro i hi
    cases i with
    | zero => simp [cellsOfWords]
    | succ i =>
      have := ih i (by simpa using hi)
      rw [show (i + 1) * 2 = i * 2 + 1 + 1 by omega]
      simpa [cellsOfWords] using this

/-- A slice of words reads the list 'ws'. -/
def WordsL (w : World) (a : Option Addr) (ws : List (Int × Int)) : Prop := Words w a ws.length (fun i => (ws.getD i (0, 0)).1) (fun i => (ws.getD i (0, 0)).2)

theorem wordsL_of_own {w : World} {base g n cap : Nat} {ws : List (Int × Int)} (h : w.ownsRow base 51 2 (.slice (some ⟨g, 0, none⟩) n cap) n (cellsOfWords ws)) (hn : n = ws.length) : WordsL w (some ⟨g, 0, none⟩) ws := by
  subst hn
  exact words_of_own h (cellsOfWords_get ws)

theorem four_alloc (w : World) (o1 o2 o3 o4 : Obj) : ((((w.alloc o1).alloc o2).alloc o3).alloc o4).heap[w.heap.size]? = some o1 ∧ ((((w.alloc o1).alloc o2).alloc o3).alloc o4).heap[w.heap.size + 1]? = some o2 ∧
    ((((w.alloc o1).alloc o2).alloc o3).alloc o4).heap[w.heap.size + 1 + 1]? = some o3 ∧ ((((w.alloc o1).alloc o2).alloc o3).alloc o4).heap[w.heap.size + 1 + 1 + 1]? = some o4 ∧ ((((w.alloc o1).alloc o2).alloc o3).alloc o4).heap.size = w.heap.size + 4 ∧
    Below w.heap.size w ((((w.alloc o1).alloc o2).alloc o3).alloc o4) := by
  obtain ⟨h1, h2, h3⟩ := two_alloc w o1 o2
  obtain ⟨k1, k2, k3⟩ := two_alloc ((w.alloc o1).alloc o2) o3 o4
  have e1 : ∀ k, k < w.heap.size + 2 → ((((w.alloc o1).alloc o2).alloc o3).alloc o4).heap[k]? = ((w.alloc o1).alloc o2).heap[k]? := fun k hk => by
    rw [Below.heap_alloc _ _ _ (by simp; omega), Below.heap_alloc _ _ _ (by rw [h3]; omega)]
  rw [h3] at k1 k2 k3
  refine ⟨(e1 _ (by omega)).trans h1, (e1 _ (by omega)).trans h2, k1, k2, by rw [k3], ?_⟩
  exact ((((Below.refl _ _).alloc (Nat.le_refl _) _).alloc (by simp) _).alloc (by simp; omega) _).alloc (by simp; omega) _

theorem own_cap {w : World} {base e size g n cap : Nat} {xs : List Value} (h : w.ownsRow base e size (.slice (some ⟨g, 0, none⟩) n cap) n xs) : n ≤ cap := by
  rcases h.2 with ⟨h', _⟩ | ⟨g', cap', cur, h', _, _, hc, _⟩
  · simp at h'
  · simp only [Value.slice.injEq, Option.some.injEq, Addr.mk.injEq, and_true, true_and] at h'
    obtain ⟨_, rfl⟩ := h'
    exact hc

theorem lay_mono (z y : Nat → Int) (k n : Nat) (h : k ≤ n) : (lay z y k).length ≤ (lay z y n).length := by
  induction n with
  | zero => obtain rfl : k = 0 := by omega
            exact Nat.le_refl _
  | succ n ih =>
    by_cases e : k = n + 1
    · subst e; exact Nat.le_refl _
    · have := ih (by omega)
      rw [lay, List.length_append]; omega

/-- What a function that hands back a Level leaves: its words lie in new memory, or at 'old'. -/
def LevelPost (old : Option Addr) (s : Int) (ws : List (Int × Int)) (w : World) (e : Ending) (w' : World) : Prop :=
  ∃ a' c', e = .returned (.agg #[.int .i64 s, .slice a' ws.length c']) ∧ WordsL w' a' ws ∧ Below w.heap.size w w' ∧ ws.length ≤ c' ∧ ∀ x, a' = some x → w.heap.size ≤ x.block ∨ old = some x

theorem LevelPost.mk {old : Option Addr} {s : Int} {ws : List (Int × Int)} {w w' : World} (a' : Option Addr) (q c' : Nat) (hq : q = ws.length) (h1 : WordsL w' a' ws) (h2 : Below w.heap.size w w') (h3 : q ≤ c') (h4 : ∀ x, a' = some x → w.heap.size ≤ x.block ∨ old = some x) :
    LevelPost old s ws w (.returned (.agg #[.int .i64 s, .slice a' q c'])) w' := by
  subst hq; exact ⟨a', c', rfl, h1, h2, h3, h4⟩

theorem Words.set {w : World} {a : Option Addr} {n : Nat} {z y : Nat → Int} (h : Words w a n z y) (p : Addr) (u : Value) (hne : ∀ x, a = some x → p.block ≠ x.block) : Words (w.setCell p u) a n z y := by
  rcases h with h | ⟨b, o, rfl, hc⟩
  · exact .inl h
  · refine .inr ⟨b, o, rfl, fun i hi => ?_⟩
    have hb := hne _ rfl
    rw [World.cell?_setCell_other _ _ _ _ (fun e => hb (by rw [e])), World.cell?_setCell_other _ _ _ _ (fun e => hb (by rw [e]))]
    exact hc i hi

set_option maxHeartbeats 2000000 in
theorem level_some (b1 o1 c1 b2 o2 c2 n m : Nat) (z yb y : Nat → Int) (s bs : Int) (w : World) (hm : m ≤ 1048576) (hn1 : 1 ≤ n) (hnm : n ≤ m)
    (hc1 : ∀ i, i < n → w.cell? ⟨b1, o1 + i, none⟩ = some (.int .u64 (y i)))
    (hc2 : ∀ i, i < m → w.cell? ⟨b2, o2 + i * 2, none⟩ = some (.int .i64 (z i)) ∧ w.cell? ⟨b2, o2 + i * 2 + 1, none⟩ = some (.int .u64 (yb i))) :
    Calls Try.prog 34 #[.agg #[.int .i64 s, .slice (some ⟨b1, o1, none⟩) n c1], .agg #[.int .i64 bs, .slice (some ⟨b2, o2, none⟩) m c2]] w (LevelPost none s (lay z y n) w) := by
  obtain ⟨i0, hi, hz0, hz1, hz2⟩ := info_parts info51
  go_enter Try.func34, Try.ntmps34
  go_wp2
  obtain ⟨W, hW⟩ : ∃ W, W = ((((w.alloc (.cells #[.int .i64 s, .slice (some ⟨b1, o1, none⟩) n c1] 53)).alloc (.cells #[.int .i64 bs, .slice (some ⟨b2, o2, none⟩) m c2] 36)).alloc (.cells #[.int .i64 0, .slice none 0 0] 36)).alloc (.cells #[.int .i64 s, .slice none 0 0] 36)) := ⟨_, rfl⟩
  obtain ⟨f1, f2, f3, f4, f5, f6⟩ := four_alloc w (.cells #[.int .i64 s, .slice (some ⟨b1, o1, none⟩) n c1] 53) (.cells #[.int .i64 bs, .slice (some ⟨b2, o2, none⟩) m c2] 36) (.cells #[.int .i64 0, .slice none 0 0] 36) (.cells #[.int .i64 s, .slice none 0 0] 36)
  rw [← hW] at f1 f2 f3 f4 f5 f6 ⊢
  clear hW
  have hw1 : ∀ i, i < n → W.cell? ⟨b1, o1 + i, none⟩ = some (.int .u64 (y i)) := fun i hi => by
    rw [f6.cell (p := ⟨b1, o1 + i, none⟩) (World.block_lt_of_cell? w ⟨b1, o1 + i, none⟩ (hc1 i hi))]; exact hc1 i hi
  obtain ⟨p0, p1, p2, p3⟩ := two_cells f1
  obtain ⟨l0, l1, l2, l3⟩ := two_cells f4
  obtain ⟨r0, r1, r2, r3⟩ := two_cells f3
  have H : Hid (W.heap[w.heap.size]? = some (.cells #[.int .i64 s, .slice (some ⟨b1, o1, none⟩) n c1] 53 (0, 0)) ∧ W.heap[w.heap.size + 1]? = some (.cells #[.int .i64 bs, .slice (some ⟨b2, o2, none⟩) m c2] 36 (0, 0)) ∧
    W.heap[w.heap.size + 1 + 1]? = some (.cells #[.int .i64 0, .slice none 0 0] 36 (0, 0)) ∧ W.heap[w.heap.size + 1 + 1 + 1]? = some (.cells #[.int .i64 s, .slice none 0 0] 36 (0, 0)) ∧ W.heap.size = w.heap.size + 4 ∧ Below w.heap.size w W) := ⟨f1, f2, f3, f4, f5, f6⟩
  clear f1 f2 f3 f4 f5 f6
  go_loop [6, 17] (fun cn i => ∃ (k c : Nat), k ≤ n ∧ c ≤ k ∧ i = .int .i64 k ∧ cn = .int .i64 c ∧ Hid (c = (lay z y k).length)) (fun _ i => n - (intOf i).toNat)
  case atStart => exact ⟨0, 0, Nat.zero_le _, Nat.le_refl _, rfl, rfl, (rfl : 0 = (lay z y 0).length)⟩
  case round =>
    obtain ⟨k, c, hk, hck, rfl, rfl, HC⟩ := hrel
    by_cases hlt : k < n
    · have ck := hw1 k hlt
      have HL : Hid ((lay z y (k + 1)).length = c + (if y k = 0 then 0 else 1)) := by
        show (lay z y (k + 1)).length = c + (if y k = 0 then 0 else 1)
        rw [lay, List.length_append, HC.out]; split <;> rfl
      by_cases hy : y k = 0
      · have hyb : (y k != 0) = false := by simp [hy]
        have HY : Hid (y k = 0) := hy
        clear hy
        go_wp2
        go_round
        case rel => exact ⟨k + 1, c, by omega, by omega, by go_num, rfl, (by rw [HL.out, if_pos HY.out, Nat.add_zero] : c = (lay z y (k + 1)).length)⟩
        case measure => simp [intOf]; omega
      · have hyb : (y k != 0) = true := by simp [hy]
        have HY : Hid (¬ y k = 0) := hy
        clear hy
        go_wp2
        go_round
        case rel => exact ⟨k + 1, c + 1, by omega, by omega, by go_num, by go_num, (by rw [HL.out, if_neg HY.out] : c + 1 = (lay z y (k + 1)).length)⟩
        case measure => simp [intOf]; omega
    · by_cases h0 : c = 0
      · subst h0
        go_wp2
        refine bodyPost_ret (v := .agg #[.int .i64 s, .slice none 0 0]) (by simp [results, Try.results34, go_sem, r0, r1]) rfl ?_
        exact LevelPost.mk none 0 0 (by rw [HC.out, show k = n by omega]) (.inl (by rw [← show k = n by omega, ← HC.out])) ((H.out.2.2.2.2.2.setCell (by simp; omega) _).setCell (by simp; omega) _) (Nat.le_refl _) (fun x h => by cases h)
      · have hcb : ((c : Int) == 0) = false := by simp; omega
        go_wp2_with (at_make; refine wpList_make_own _ rfl _ _ 26 rfl (w.heap.size + 4) 51 i0 (.agg #[.int .i64 0, .int .u64 0]) 2 Try.underlying26 hi hz0 hz1 _ _ _ c rfl rfl rfl ?b2 ?b3 ?b4 ?_)
        case b2 => first | omega | (rw [hz2]; omega)
        case b3 => unfold maxLen; omega
        case b4 => have := H.out.2.2.2.2.1; omega
        intro w0 hown0 hgrow0
        obtain rfl : n = k := by omega
        obtain ⟨F1, F2, F3, F4, F5, F6⟩ := H.out
        have G1 := (hgrow0.block (w.heap.size) (by omega) (by simp)).trans F1
        have G2 := (hgrow0.block (w.heap.size + 1) (by omega) (by simp)).trans F2
        have G3 := (hgrow0.block (w.heap.size + 1 + 1) (by omega) (by simp)).trans F3
        have G4 := (hgrow0.block (w.heap.size + 1 + 1 + 1) (by omega) (by simp)).trans F4
        have G6 := F6.grown hgrow0 (by omega) (fun k h => by cases h)
        have hsz0 : w.heap.size + 4 < w0.heap.size := by have := (hown0.lt W.heap.size rfl).2; omega
        clear p0 p1 p2 p3 l0 l1 l2 l3 r0 r1 r2 r3 F1 F2 F3 F4 F6 hw1 H hgrow0
        rw [F5] at hown0 ⊢
        clear F5
        have hw1 : ∀ i, i < n → w0.cell? ⟨b1, o1 + i, none⟩ = some (.int .u64 (y i)) := fun i hi => by
          rw [G6.cell (p := ⟨b1, o1 + i, none⟩) (World.block_lt_of_cell? w ⟨b1, o1 + i, none⟩ (hc1 i hi))]; exact hc1 i hi
        obtain ⟨p0, p1, p2, p3⟩ := two_cells G1
        obtain ⟨l0, l1, l2, l3⟩ := two_cells G4
        have H : Hid (w0.heap[w.heap.size + 1]? = some (.cells #[.int .i64 bs, .slice (some ⟨b2, o2, none⟩) m c2] 36 (0, 0)) ∧
          w0.heap[w.heap.size + 1 + 1]? = some (.cells #[.int .i64 0, .slice none 0 0] 36 (0, 0)) ∧ w0.heap[w.heap.size + 1 + 1 + 1]? = some (.cells #[.int .i64 s, .slice none 0 0] 36 (0, 0)) ∧ Below w.heap.size w w0 ∧
          w0.ownsRow (w.heap.size + 4) 51 2 (.slice (some ⟨w.heap.size + 4, 0, none⟩) 0 c) 0 []) := ⟨G2, G3, G4, G6, hown0⟩
        clear G1 G2 G3 G4 G6 hown0
        go_wp2
        go_loopw [35] (fun i wr => ∃ (j q g cap : Nat), j ≤ n ∧ q ≤ j ∧ i = .int .i64 j ∧ Hid (q = (lay z y j).length) ∧ wr.heap[w.heap.size + 1]? = some (.cells #[.int .i64 bs, .slice (some ⟨b2, o2, none⟩) m c2] 36 (0, 0)) ∧
          wr.heap[w.heap.size + 1 + 1]? = some (.cells #[.int .i64 0, .slice none 0 0] 36 (0, 0)) ∧ wr.heap[w.heap.size + 1 + 1 + 1]? = some (.cells #[.int .i64 s, .slice (some ⟨g, 0, none⟩) q cap] 36 (0, 0)) ∧ Below w.heap.size w wr ∧
          wr.ownsRow (w.heap.size + 4) 51 2 (.slice (some ⟨g, 0, none⟩) q cap) q (cellsOfWords (lay z y j)) ∧ w.heap.size + 4 ≤ wr.heap.size) (fun i _ => n - (intOf i).toNat)
        case atStart => exact ⟨0, 0, w.heap.size + 4, c, Nat.zero_le _, Nat.le_refl _, rfl, (rfl : 0 = (lay z y 0).length), (Below.heap_setCell _ _ _ _ (by simp)).trans H.out.1, (Below.heap_setCell _ _ _ _ (by simp)).trans H.out.2.1, heap_setCell_same _ _ _ _ _ _ H.out.2.2.1, H.out.2.2.2.1.setCell (by simp; omega) _, own_other H.out.2.2.2.2 _ _ (by simp), by simp; omega⟩
        case round =>
          clear p0 p1 p2 p3 l0 l1 l2 l3 H hw1 hsz0
          obtain ⟨j, q, g, cap, hj, hqj, rfl, HQ, K1, K2, K3, K4, K5, hsz⟩ := hrel
          have hcj : j < n → wr.cell? ⟨b1, o1 + j, none⟩ = some (.int .u64 (y j)) := fun hi => by
            rw [K4.cell (p := ⟨b1, o1 + j, none⟩) (World.block_lt_of_cell? w ⟨b1, o1 + j, none⟩ (hc1 j hi))]; exact hc1 j hi
          have hcz : j < n → wr.cell? ⟨b2, o2 + j * 2, none⟩ = some (.int .i64 (z j)) := fun hi => by
            rw [K4.cell (p := ⟨b2, o2 + j * 2, none⟩) (World.block_lt_of_cell? w ⟨b2, o2 + j * 2, none⟩ (hc2 j (by omega)).1)]; exact (hc2 j (by omega)).1
          have hbz : j < n → b2 < w.heap.size := fun hi => World.block_lt_of_cell? w ⟨b2, o2 + j * 2, none⟩ (hc2 j (by omega)).1
          clear hc1 hc2
          obtain ⟨p0, p1, p2, p3⟩ := two_cells K1
          obtain ⟨r0, r1, r2, r3⟩ := two_cells K2
          obtain ⟨l0, l1, l2, l3⟩ := two_cells K3
          have H : Hid (wr.heap[w.heap.size + 1]? = some (.cells #[.int .i64 bs, .slice (some ⟨b2, o2, none⟩) m c2] 36 (0, 0)) ∧
            wr.heap[w.heap.size + 1 + 1]? = some (.cells #[.int .i64 0, .slice none 0 0] 36 (0, 0)) ∧ wr.heap[w.heap.size + 1 + 1 + 1]? = some (.cells #[.int .i64 s, .slice (some ⟨g, 0, none⟩) q cap] 36 (0, 0)) ∧ Below w.heap.size w wr ∧
            wr.ownsRow (w.heap.size + 4) 51 2 (.slice (some ⟨g, 0, none⟩) q cap) q (cellsOfWords (lay z y j))) := ⟨K1, K2, K3, K4, K5⟩
          have hgB : w.heap.size + 4 ≤ g := (K5.lt g rfl).1
          clear K1 K2 K3 K4 K5
          by_cases hlt : j < n
          · have d1 := hcj hlt
            have d2 := hcz hlt
            have hb2 := hbz hlt
            clear hcj hcz hbz
            by_cases hy : y j = 0
            · have hyb : (y j != 0) = false := by simp [hy]
              have HY : Hid (lay z y (j + 1) = lay z y j) := by
                show lay z y (j + 1) = lay z y j
                rw [lay, if_pos hy, List.append_nil]
              clear hy
              go_wp2
              go_roundw
              case rel => exact ⟨j + 1, q, g, cap, by omega, by omega, by go_num, (by rw [HY.out]; exact HQ.out : q = (lay z y (j + 1)).length), H.out.1, H.out.2.1, H.out.2.2.1, H.out.2.2.2.1, by rw [HY.out]; exact H.out.2.2.2.2, hsz⟩
              case measure => simp [intOf]; omega
            · have hyb : (y j != 0) = true := by simp [hy]
              have HY : Hid (lay z y (j + 1) = lay z y j ++ [(z j, y j)]) := by
                show lay z y (j + 1) = lay z y j ++ [(z j, y j)]
                rw [lay, if_neg hy]
              clear hy
              have hjm : (j : Int) < (m : Int) := by omega
              have hsz1 : w.heap.size + 1 < wr.heap.size := by omega
              have hsz3 : w.heap.size + 1 + 1 + 1 < wr.heap.size := by omega
              go_wp2
              go_region_law (refine step_append_lies _ rfl (.tmp 43) (.tmp 52) 26 rfl (w.heap.size + 4) 51 i0 (.agg #[.int .i64 0, .int .u64 0]) 2 16 Try.underlying26 hi hz0 hz1 hz2 rfl (by decide) (.slice (some ⟨g, 0, none⟩) q cap) q (cellsOfWords (lay z y j)) rfl (by first | exact (H.out.2.2.2.2.alloc _).drew | exact H.out.2.2.2.2.drew.alloc _) ⟨wr.heap.size, 0, none⟩ 1 1 [.int .i64 (z j), .int .u64 (y j)] rfl rfl (World.news_of_block (cs := #[.int .i64 (z j), .int .u64 (y j)]) (heap_alloc_new wr _)) (by simp [Value.oneCell']) (by decide) (by unfold maxLen; omega) (by omega) (by simp; omega) _ rfl ?_; intro g1 cap1 w1 hown1 hgrow1 hat1 hlt1; have hb1 : Below (w.heap.size + 4) wr w1 := Below.grown (by first | exact ((Below.refl _ _).alloc hsz _).drew | exact ((Below.refl _ _).drew.alloc hsz _)) hgrow1 (by simp; omega) (fun k hk => by simp [Value.ownBlock] at hk; omega); have m1 := (hb1.cell (p := ⟨w.heap.size + 1 + 1 + 1, 1, none⟩) (by simp)).trans l1; have m2 := (hb1.frozen (p := ⟨w.heap.size + 1 + 1 + 1, 1, none⟩) (by simp)).trans l3)
              all_goals
                have HO1 : Hid (w1.ownsRow (w.heap.size + 4) 51 2 (.slice (some ⟨g1, 0, none⟩) (q + 1) cap1) (q + 1) (cellsOfWords (lay z y j) ++ [.int .i64 (z j), .int .u64 (y j)])) := hown1
                have HB1 : Hid (Below (w.heap.size + 4) wr w1) := hb1
                clear hown1 hb1 hgrow1 hat1
                go_wp2
                go_roundw
                case rel => exact ⟨j + 1, q + 1, g1, cap1, by omega, by omega, by go_num, (by rw [HY.out, List.length_append, ← HQ.out]; rfl : q + 1 = (lay z y (j + 1)).length),
                  (Below.heap_setCell _ _ _ _ (by simp)).trans ((HB1.out.block _ (by omega)).trans H.out.1), (Below.heap_setCell _ _ _ _ (by simp)).trans ((HB1.out.block _ (by omega)).trans H.out.2.1), heap_setCell_same _ _ _ _ _ _ ((HB1.out.block _ (by omega)).trans H.out.2.2.1),
                  (H.out.2.2.2.1.trans (HB1.out.mono (by omega))).setCell (by simp; omega) _, by rw [HY.out, cellsOfWords_append]; exact own_other HO1.out _ _ (by have := (HO1.out.lt g1 rfl).1; simp; omega), by have := HB1.out.size; simp; omega⟩
                case measure => simp [intOf]; omega
          · go_wp2
            refine bodyPost_ret (v := .agg #[.int .i64 s, .slice (some ⟨g, 0, none⟩) q cap]) (by simp [results, Try.results34, go_sem, r0, r1]) rfl ?_
            obtain rfl : n = j := by omega
            exact LevelPost.mk _ q cap HQ.out (wordsL_of_own (own_other (own_other H.out.2.2.2.2 _ _ (by simp; omega)) _ _ (by simp; omega)) HQ.out) ((H.out.2.2.2.1.setCell (by simp; omega) _).setCell (by simp; omega) _) (own_cap H.out.2.2.2.2) (fun x h => by cases h; exact .inl (by simp; omega))

theorem level_none (a1 a2 : Option Addr) (c1 c2 m : Nat) (z y : Nat → Int) (s bs : Int) (w : World) :
    Calls Try.prog 34 #[.agg #[.int .i64 s, .slice a1 0 c1], .agg #[.int .i64 bs, .slice a2 m c2]] w (LevelPost none s (lay z y 0) w) := by
  go_enter Try.func34, Try.ntmps34
  go_wp2
  refine wp_loop_rounds 1 ?_
  rw [rounds_succ]
  go_wp2
  refine bodyPost_ret (v := .agg #[.int .i64 s, .slice none 0 0]) (by simp [results, Try.results34, go_sem]) rfl ?_
  refine LevelPost.mk none 0 0 rfl (.inl rfl) ?_ (Nat.le_refl _) (fun x h => by cases h)
  first
    | exact ((((Below.refl _ _).alloc (Nat.le_refl _) _).alloc (by simp) _).alloc (by simp; omega) _).alloc (by simp; omega) _
    | exact ((((((Below.refl _ _).alloc (Nat.le_refl _) _).alloc (by simp) _).alloc (by simp; omega) _).alloc (by simp; omega) _).setCell (by simp; omega) _).setCell (by simp; omega) _

theorem level_any {a1 a2 : Option Addr} {n m : Nat} {z yb y : Nat → Int} (c1 c2 : Nat) (s bs : Int) (w : World) (hm : m ≤ 1048576) (hnm : n ≤ m) (h1 : Reads .u64 w a1 n y) (h2 : Words w a2 m z yb) :
    Calls Try.prog 34 #[.agg #[.int .i64 s, .slice a1 n c1], .agg #[.int .i64 bs, .slice a2 m c2]] w (LevelPost none s (lay z y n) w) := by
  by_cases h0 : n = 0
  · subst h0
    exact level_none a1 a2 c1 c2 m z y s bs w
  · rcases h1 with h1 | ⟨b1, o1, rfl, hc1⟩
    · exact absurd h1 h0
    rcases h2 with h2 | ⟨b2, o2, rfl, hc2⟩
    · omega
    exact level_some b1 o1 c1 b2 o2 c2 n m z yb y s bs w hm (by omega) hnm hc1 hc2

/-- ZZWordLevelLevel. -/
theorem zlevel_any {a1 a2 : Option Addr} {n m : Nat} {z yb y : Nat → Int} (c1 c2 : Nat) (s bs : Int) (w : World) (hm : m ≤ 1048576) (hnm : n ≤ m) (h1 : Reads .u64 w a1 n y) (h2 : Words w a2 m z yb) :
    Calls Try.prog 22 #[.int .i64 s, .slice a1 n c1, .agg #[.int .i64 bs, .slice a2 m c2]] w (LevelPost none s (lay z y n) w) := by
  go_enter Try.func22, Try.ntmps22
  go_wp2_with fail
  obtain ⟨W, hW⟩ : ∃ W, W = ((w.alloc (.cells #[.int .i64 bs, .slice a2 m c2] 36)).alloc (.cells #[.int .i64 0, .slice none 0 0] 36)) := ⟨_, rfl⟩
  obtain ⟨f1, f2, f3⟩ := two_alloc w (.cells #[.int .i64 bs, .slice a2 m c2] 36) (.cells #[.int .i64 0, .slice none 0 0] 36)
  have hb : Below w.heap.size w ((w.alloc (.cells #[.int .i64 bs, .slice a2 m c2] 36)).alloc (.cells #[.int .i64 0, .slice none 0 0] 36)) := ((Below.refl _ _).alloc (Nat.le_refl _) _).alloc (by simp) _
  rw [← hW] at f1 f2 f3 hb ⊢
  clear hW f1
  refine (level_any c1 c2 s bs W hm hnm (h1.below hb) (h2.below hb)).mono ?_
  rintro e w1 ⟨a', c', rfl, hw1, hb1, hc1, hx1⟩
  obtain ⟨r0, r1, r2, r3⟩ := two_cells ((hb1.block _ (by omega)).trans f2)
  have HB : Hid (Below w.heap.size w w1) := hb.trans (hb1.mono (by omega))
  have HW : Hid (WordsL w1 a' (lay z y n)) := hw1
  have hr : w.heap.size + 1 < w1.heap.size := by have := hb1.size; omega
  have HX : Hid (∀ x, a' = some x → w.heap.size + 2 ≤ x.block) := fun x hx => by
    rcases hx1 x hx with h | h
    · omega
    · cases h
  clear h1 h2 hb hb1 hw1 f2 f3 hx1
  go_wp2
  refine bodyPost_ret (v := .agg #[.int .i64 s, .slice a' (lay z y n).length c']) (by simp [results, Try.results22, go_sem, r0, r1]) rfl ?_
  exact LevelPost.mk a' _ c' rfl (Words.set (Words.set HW.out _ _ (fun x hx => by have := HX.out x hx; simp; omega)) _ _ (fun x hx => by have := HX.out x hx; simp; omega)) ((HB.out.setCell (by simp) _).setCell (by simp) _) hc1 (fun x hx => .inl (by have := HX.out x hx; omega))

end Go.Proofs.Qxb6600284a
