/- Level.join at every level, ZZJoin: their contracts. -/
import Derived.Test.Qxb6600284aJoin
import Derived.Test.Qxb6600284aJoinFacts
namespace Go.Proofs.Qxb6600284a
open Go.RowKit

set_option maxRecDepth 100000 in
set_option maxHeartbeats 4000000 in
theorem join_nil (a1 a2 : Option Addr) (n1 c1 c2 : Nat) (as0 : List (Int × Int)) (s1 s2 s : Int) (w : World) (HS : Hid (s = max s1 s2)) (HN : Hid (n1 = as0.length)) (hk1 : n1 ≤ c1) (hw1 : WordsL w a1 as0) :
    Calls Try.prog 35 #[.agg #[.int .i64 s1, .slice a1 n1 c1], .agg #[.int .i64 s2, .slice a2 0 c2]] w (LevelPost a1 s as0 w) := by
  go_enter Try.func35, Try.ntmps35
  go_upto_region 1 with fail
  go_cut [5] (fun t5 wc => t5 = .pointer (some ⟨w.heap.size + 1 + 1 + 1, 0, none⟩) ∧ JStart w s1 s2 s (.slice a1 n1 c1) (.slice a2 0 c2) wc)
  case first =>
    clear hw1
    go_wp2
    all_goals
      go_meet
      case rel => exact ⟨rfl, jstart (by have := HS.out; omega)⟩
  case rest =>
    obtain ⟨rfl, f1, f2, f3, f4, f5, f6⟩ := hcut
    obtain ⟨p0, p1, p2, p3⟩ := two_cells f1
    obtain ⟨q0, q1, q2, q3⟩ := two_cells f2
    obtain ⟨r0, r1, r2, r3⟩ := two_cells f3
    obtain ⟨l0, l1, l2, l3⟩ := two_cells f4
    have HW : Hid (WordsL w a1 as0) := hw1
    have HB : Hid (Below w.heap.size w wc) := f6
    clear f1 f2 f3 f4 f5 f6 hw1
    go_wp2
    refine bodyPost_ret (v := .agg #[.int .i64 s, .slice a1 n1 c1]) (by simp [results, Try.results35, go_sem, r0, r1]) rfl ?_
    refine LevelPost.mk a1 n1 c1 HN.out (HW.out.below ?_) ?_ hk1 (fun x h => .inr h)
    all_goals
      first
        | exact (((HB.out.setCell (by simp; omega) _).setCell (by simp; omega) _).setCell (by simp; omega) _)
        | exact ((HB.out.setCell (by simp; omega) _).setCell (by simp; omega) _)

theorem join_any {a1 a2 : Option Addr} (n1 n2 c1 c2 : Nat) {as0 bs0 : List (Int × Int)} (s1 s2 : Int) (w : World) (hn1 : n1 = as0.length) (hn2 : n2 = bs0.length) (hm1 : n1 ≤ 1048576) (hm2 : n2 ≤ 1048576) (hk1 : n1 ≤ c1) (hk2 : n2 ≤ c2)
    (hw1 : WordsL w a1 as0) (hw2 : WordsL w a2 bs0) :
    Calls Try.prog 35 #[.agg #[.int .i64 s1, .slice a1 n1 c1], .agg #[.int .i64 s2, .slice a2 n2 c2]] w (LevelPost a1 (max s1 s2) (mrg (bits .or .u64) (n1 + n2) as0 bs0) w) := by
  by_cases h0 : n2 = 0
  · subst h0
    obtain rfl : bs0 = [] := List.eq_nil_of_length_eq_zero hn2.symm
    rw [mrg_nil_right _ _ _ (by omega)]
    exact join_nil a1 a2 n1 c1 c2 as0 s1 s2 _ w rfl hn1 hk1 hw1
  · exact join_some a1 a2 n1 n2 c1 c2 as0 bs0 s1 s2 _ w rfl ⟨hn1, hn2⟩ hm1 hm2 hk1 hk2 (by omega) hw1 hw2

theorem Words.set' {w : World} {a : Option Addr} {n : Nat} {z y : Nat → Int} (h : Words w a n z y) (p : Addr) (u : Value) (hne : 0 < n → ∀ x, a = some x → p.block ≠ x.block) : Words (w.setCell p u) a n z y := by
  by_cases h0 : n = 0
  · exact .inl h0
  · exact h.set p u (hne (by omega))

/-- Words do not lie in a block that holds a Level. -/
theorem words_not_box {w : World} {g e : Nat} {u : Value} {b : Option Addr} {l c : Nat} (hg : w.heap[g]? = some (.cells #[u, .slice b l c] e (0, 0))) {a : Option Addr} {n : Nat} {z y : Nat → Int} (h : Words w a n z y) : 0 < n → ∀ x, a = some x → g ≠ x.block := by
  intro hn x hx hb
  rcases h with h | ⟨b', o, ha, hc⟩
  · omega
  · rw [ha] at hx
    cases hx
    simp only at hb
    subst hb
    have h1 := (hc 0 hn).2
    rw [cell_of_row w g _ _ e (0, 0) hg] at h1
    match o, h1 with
    | 0, h1 => simp at h1
    | o + 1, h1 => simp at h1

theorem three_alloc (w : World) (o1 o2 o3 : Obj) : (((w.alloc o1).alloc o2).alloc o3).heap[w.heap.size + 1 + 1]? = some o3 ∧ (((w.alloc o1).alloc o2).alloc o3).heap.size = w.heap.size + 3 ∧ Below w.heap.size w (((w.alloc o1).alloc o2).alloc o3) := by
  refine ⟨?_, by simp, (((Below.refl _ _).alloc (Nat.le_refl _) _).alloc (by simp) _).alloc (by simp; omega) _⟩
  have h := heap_alloc_new ((w.alloc o1).alloc o2) o3
  have e : ((w.alloc o1).alloc o2).heap.size = w.heap.size + 1 + 1 := by simp
  rwa [e] at h

set_option maxHeartbeats 2000000 in
theorem zjoin_any {a1 a2 : Option Addr} (n1 n2 c1 c2 : Nat) {as0 bs0 : List (Int × Int)} (s1 s2 : Int) (w : World) (hn1 : n1 = as0.length) (hn2 : n2 = bs0.length) (hm1 : n1 ≤ 1048576) (hm2 : n2 ≤ 1048576) (hk1 : n1 ≤ c1) (hk2 : n2 ≤ c2)
    (hw1 : WordsL w a1 as0) (hw2 : WordsL w a2 bs0) :
    Calls Try.prog 27 #[.agg #[.int .i64 s1, .slice a1 n1 c1], .agg #[.int .i64 s2, .slice a2 n2 c2]] w (LevelPost a1 (max s1 s2) (mrg (bits .or .u64) (n1 + n2) as0 bs0) w) := by
  have HN : Hid (n1 = as0.length ∧ n2 = bs0.length) := ⟨hn1, hn2⟩
  clear hn1 hn2
  obtain ⟨s, hs⟩ : ∃ s, s = max s1 s2 := ⟨_, rfl⟩
  obtain ⟨ws, hws⟩ : ∃ ws, ws = mrg (bits .or .u64) (n1 + n2) as0 bs0 := ⟨_, rfl⟩
  rw [← hs, ← hws]
  have HSW : Hid (s = max s1 s2 ∧ ws = mrg (bits .or .u64) (n1 + n2) as0 bs0) := ⟨hs, hws⟩
  clear hs hws
  go_enter Try.func27, Try.ntmps27
  go_wp2_with fail
  obtain ⟨W, hW⟩ : ∃ W, W = (((w.alloc (.cells #[.int .i64 s1, .slice a1 n1 c1] 36)).alloc (.cells #[.int .i64 s2, .slice a2 n2 c2] 36)).alloc (.cells #[.int .i64 0, .slice none 0 0] 36)) := ⟨_, rfl⟩
  obtain ⟨f1, f2, f3⟩ := three_alloc w (.cells #[.int .i64 s1, .slice a1 n1 c1] 36) (.cells #[.int .i64 s2, .slice a2 n2 c2] 36) (.cells #[.int .i64 0, .slice none 0 0] 36)
  rw [← hW] at f1 f2 f3 ⊢
  clear hW
  refine (join_any n1 n2 c1 c2 s1 s2 W HN.out.1 HN.out.2 hm1 hm2 hk1 hk2 (hw1.below f3) (hw2.below f3)).mono ?_
  rw [← HSW.out.1, ← HSW.out.2]
  rintro e w1 ⟨a', c', rfl, hw', hb', hc', hx'⟩
  obtain ⟨r0, r1, r2, r3⟩ := two_cells ((hb'.block _ (by omega)).trans f1)
  have hne : Hid (0 < ws.length → ∀ x, a' = some x → w.heap.size + 1 + 1 ≠ x.block) := words_not_box ((hb'.block _ (by omega)).trans f1) hw'
  have HB : Hid (Below w.heap.size w w1) := f3.trans (hb'.mono (by omega))
  have HW : Hid (WordsL w1 a' ws) := hw'
  have HX : Hid (∀ x, a' = some x → w.heap.size + 3 ≤ x.block ∨ a1 = some x) := fun x hx => by
    rcases hx' x hx with h | h
    · exact .inl (by omega)
    · exact .inr h
  have hr : w.heap.size + 1 + 1 < w1.heap.size := by have := hb'.size; omega
  clear hw1 hw2 hb' hw' f1 f2 f3 hx'
  go_wp2
  refine bodyPost_ret (v := .agg #[.int .i64 s, .slice a' ws.length c']) (by simp [results, Try.results27, go_sem, r0, r1]) rfl ?_
  exact LevelPost.mk a' _ c' rfl (Words.set' (Words.set' HW.out _ _ hne.out) _ _ hne.out) ((HB.out.setCell (by simp; omega) _).setCell (by simp; omega) _) hc' (fun x hx => by
    rcases HX.out x hx with h | h
    · exact .inl (by omega)
    · exact .inr h)

end Go.Proofs.Qxb6600284a
