/- zzSameLevel over two levels that are one: its contract. -/
import Derived.Test.Qxb6600284aParts
namespace Go.Proofs.Qxb6600284a
open Go.RowKit

set_option maxRecDepth 100000 in
set_option maxHeartbeats 2000000 in
theorem same_ok {a1 a2 : Option Addr} {n : Nat} {z y : Nat → Int} (c1 c2 : Nat) (s : Int) (w : World) (hn : n ≤ 1048576) (h1 : Words w a1 n z y) (h2 : Words w a2 n z y) :
    Calls Try.prog 30 #[.agg #[.int .i64 s, .slice a1 n c1], .agg #[.int .i64 s, .slice a2 n c2]] w fun e w' => e = .returned (.bool true) ∧ Below w.heap.size w w' := by
  go_enter Try.func30, Try.ntmps30
  go_wp2_with fail
  obtain ⟨W, hW⟩ : ∃ W, W = ((w.alloc (.cells #[.int .i64 s, .slice a1 n c1] 36)).alloc (.cells #[.int .i64 s, .slice a2 n c2] 36)) := ⟨_, rfl⟩
  obtain ⟨f1, f2, f3⟩ := two_alloc w (.cells #[.int .i64 s, .slice a1 n c1] 36) (.cells #[.int .i64 s, .slice a2 n c2] 36)
  have hb : Below w.heap.size w ((w.alloc (.cells #[.int .i64 s, .slice a1 n c1] 36)).alloc (.cells #[.int .i64 s, .slice a2 n c2] 36)) := ((Below.refl _ _).alloc (Nat.le_refl _) _).alloc (by simp) _
  rw [← hW] at f1 f2 f3 hb ⊢
  clear hW f1
  refine (parts_any c1 s W hn (h1.below hb)).mono ?_
  rintro e w1 ⟨d1, d2, rfl, g1, g2, hb1⟩
  obtain ⟨r0, r1, r2, r3⟩ := two_cells ((hb1.block _ (by omega)).trans f2)
  have h2' := (h2.below hb).below hb1
  have HB : Hid (Below w.heap.size w w1) := hb.trans (hb1.mono (by omega))
  clear h1 h2 hb hb1 f2 f3
  go_wp2_with fail
  refine (parts_any c2 s w1 hn h2').mono ?_
  rintro e w2 ⟨d3, d4, rfl, g3, g4, hb2⟩
  have g1 := g1.below hb2
  have g2 := g2.below hb2
  have HB2 : Hid (Below w.heap.size w w2) := HB.out.trans (hb2.mono HB.out.size)
  clear h2' hb2 HB r0 r1 r2 r3
  go_wp2
  go_loopw [11] (fun i wr => ∃ k m : Nat, k ≤ n ∧ i = .int .i64 k ∧ wr = w2.drewN m) (fun i _ => n - (intOf i).toNat)
  case atStart => exact ⟨0, 0, Nat.zero_le _, rfl, rfl⟩
  case round =>
    obtain ⟨k, m5, hk, rfl, rfl⟩ := hrel
    by_cases hlt : k < n
    · rcases g1 with h0 | ⟨b1, o1, rfl, k1⟩
      · omega
      rcases g2 with h0 | ⟨b2, o2, rfl, k2⟩
      · omega
      rcases g3 with h0 | ⟨b3, o3, rfl, k3⟩
      · omega
      rcases g4 with h0 | ⟨b4, o4, rfl, k4⟩
      · omega
      have e1 := k1 k hlt
      have e2 := k2 k hlt
      have e3 := k3 k hlt
      have e4 := k4 k hlt
      have hz : (z k != z k) = false := by simp
      clear k1 k2 k3 k4
      go_wp2
      go_quiet (fail)
      go_wp2
      go_roundw
      case rel => exact ⟨k + 1, m5 + nq, by omega, by go_num, by first | rfl | rw [World.drewN_drewN]⟩
      case measure => simp [intOf]; omega
    · go_wp2
      go_ret
      exact ⟨rfl, below_drewN HB2.out _⟩
end Go.Proofs.Qxb6600284a
