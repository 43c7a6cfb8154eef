/- FnWordLevelLaysBoundWords: the main walk. -/
import Derived.Test.Qxb6600284aLays
namespace Go.Proofs.Qxb6600284a
open Go.RowKit

set_option maxHeartbeats 4000000 in
theorem lays_walk {a1 a2 a3 : Option Addr} {n m l : Nat} {y z yb : Nat → Int} (c1 c2 c3 : Nat) (s bs : Int) (w : World) (k1 : n ≤ 131072) (k2 : m ≤ 131072) (k3 : l ≤ 131072) (k4 : n + m + l ≤ 131072) (k5 : n ≤ m)
    (h1 : Reads .u64 w a1 n y) (h2 : Reads .i64 w a2 m z) (h3 : Reads .u64 w a3 l yb) :
    Calls Try.prog 6 #[.int .i64 s, .slice a1 n c1, .int .i64 bs, .slice a2 m c2, .slice a3 l c3] w fun e w' => e = .returned (.bool true) ∧ Below w.heap.size w w' := by
  go_enter Try.func6, Try.ntmps6
  go_wp2_with fail
  refine (bytes19_ok a1 a2 a3 n m l c1 c2 c3 s bs w k1 k2 k3).mono ?_
  rintro e w ⟨rfl, rfl⟩
  go_wp2_with fail
  refine (fits_any a3 l c2 c3 w (by omega) h2).mono ?_
  rintro e w1 ⟨r, rfl, hr1, m1, rfl⟩
  cases r with
  | false =>
    clear hr1
    go_wp2
    go_ret
    exact ⟨rfl, below_N _ _⟩
  | true =>
    obtain ⟨rfl, hs⟩ := hr1 rfl
    have HS : Hid (Strict m z) := hs
    clear hr1 hs
    go_wp2_with fail
    refine (cloneBits_any c1 (w.drewN m1) (by omega) (h1.drewN m1)).mono ?_
    rintro e w2 ⟨d1, rfl, g1, hb2⟩
    have hB2 : Below w.heap.size w w2 := (below_N w m1).trans hb2
    have g2 := h2.below hB2
    have g3 := h3.below hB2
    clear h1 h2 h3 hb2
    have HB2 : Hid (Below w.heap.size w w2) := hB2
    clear hB2
    go_wp2_with fail
    refine (cloneInts_any c2 w2 (by omega) g2).mono ?_
    rintro e w3 ⟨d2, rfl, h2, hb3⟩
    have h1 := g1.below hb3
    have h3 := g3.below hb3
    have HB3 : Hid (Below w.heap.size w w3) := HB2.out.trans (hb3.mono HB2.out.size)
    clear g1 g2 g3 hb3 HB2
    go_wp2_with fail
    refine (cloneBits_any c3 w3 (by omega) h3).mono ?_
    rintro e w4 ⟨d3, rfl, g3, hb4⟩
    have g1 := h1.below hb4
    have g2 := h2.below hb4
    have HB4 : Hid (Below w.heap.size w w4) := HB3.out.trans (hb4.mono HB3.out.size)
    clear h1 h2 h3 hb4 HB3
    go_wp2_with fail
    refine (make_any m m bs w4 (by omega) g2 g3).mono ?_
    rintro e w5 ⟨d4, c4, rfl, h4, hb5, hc4⟩
    have h1 := g1.below hb5
    have h2 := g2.below hb5
    have HB5 : Hid (Below w.heap.size w w5) := HB4.out.trans (hb5.mono HB4.out.size)
    clear g1 g2 g3 hb5 HB4 hc4
    go_wp2_with fail
    refine (zlevel_any n c4 s bs w5 (by omega) k5 h1 h4).mono ?_
    rintro e w6 ⟨d5, c5, rfl, h5, hb6, hc5, hx5⟩
    have g1 := h1.below hb6
    have g2 := h2.below hb6
    have HB6 : Hid (Below w.heap.size w w6) := HB5.out.trans (hb6.mono HB5.out.size)
    have hlen := lay_le z y n
    have hst : Hid (Strict (lay z y n).length (fun i => ((lay z y n).getD i (0, 0)).1)) := strict_of_pairwise (lay_pairwise HS.out n k5)
    have HLK : Hid (∀ k v f, k < n → Found (lay z y n).length (fun i => ((lay z y n).getD i (0, 0)).1) (fun i => ((lay z y n).getD i (0, 0)).2) (z k) v f → (y k = 0 ∧ f = false) ∨ (y k ≠ 0 ∧ f = true ∧ v = y k)) := fun k v f hk h => lay_look HS.out k5 hk h
    unfold WordsL at h5
    obtain ⟨q, hq⟩ : ∃ q, q = (lay z y n).length := ⟨_, rfl⟩
    obtain ⟨zz, hzz⟩ : ∃ zz : Nat → Int, zz = (fun i => ((lay z y n).getD i (0, 0)).1) := ⟨_, rfl⟩
    obtain ⟨yy, hyy⟩ : ∃ yy : Nat → Int, yy = (fun i => ((lay z y n).getD i (0, 0)).2) := ⟨_, rfl⟩
    rw [← hq, ← hzz, ← hyy] at h5 HLK
    rw [← hq, ← hzz] at hst
    rw [← hq] at hlen ⊢
    have HQ : Hid (q = (lay z y n).length) := hq
    clear h1 h2 hb6 HB5 hc5 hx5 h4 hq hzz hyy
    go_wp2_with fail
    refine (parts_any c5 s _ (by omega) (by exact h5.below ((Below.refl _ _).alloc (Nat.le_refl _) _))).mono ?_
    rintro e w7 ⟨d6, d7, rfl, h6, h7, hb7⟩
    have hb67 : Below w6.heap.size w6 w7 := ((Below.refl _ _).alloc (Nat.le_refl _) _).trans (hb7.mono (by simp))
    have h1 := g1.below hb67
    have h2 := g2.below hb67
    have HB7 : Hid (Below w.heap.size w w7) := HB6.out.trans (hb67.mono HB6.out.size)
    clear g1 g2 hb7 hb67 HB6 h5
    go_wp2_with fail
    refine (strict_any q w7 (by omega) h6).mono ?_
    rintro e w8 ⟨r, rfl, hr8, m8, rfl⟩
    obtain rfl : r = true := hr8.2 hst.out
    clear hr8
    have h1 := h1.drewN m8
    have h2 := h2.drewN m8
    have h6 := h6.drewN m8
    have h7 := h7.drewN m8
    have HB8 : Hid (Below w.heap.size w (w7.drewN m8)) := below_drewN HB7.out m8
    clear HB7
    obtain ⟨w9, hw9⟩ : ∃ w9, w9 = w7.drewN m8 := ⟨_, rfl⟩
    rw [← hw9] at h1 h2 h6 h7 HB8 ⊢
    clear hw9
    go_wp2
    go_loop [15, 16] (fun nz i => ∃ (k c : Nat), k ≤ n ∧ c ≤ k ∧ i = .int .i64 k ∧ nz = .int .i64 c ∧ Hid (c = (lay z y k).length)) (fun _ i => n - (intOf i).toNat)
    case atStart => exact ⟨0, 0, Nat.zero_le _, Nat.le_refl _, rfl, rfl, (rfl : 0 = (lay z y 0).length)⟩
    case round =>
      obtain ⟨k, c, hk, hck, rfl, rfl, HC⟩ := hrel
      by_cases hlt : k < n
      · rcases h1 with h0 | ⟨b1, o1, rfl, hc1⟩
        · omega
        rcases h2 with h0 | ⟨b2, o2, rfl, hc2⟩
        · omega
        have ck := hc1 k hlt
        have cz := hc2 k (by omega)
        clear hc1 hc2
        go_wp2_with fail
        refine (lookup_any q q (z k) w9 (by omega) hst.out h6 h7).mono ?_
        rintro e w10 ⟨v, f, hf, rfl, hw⟩
        obtain rfl := hw
        have hL := HLK.out k v f hlt hf
        have HL : Hid ((lay z y (k + 1)).length = c + (if y k = 0 then 0 else 1)) := by
          show (lay z y (k + 1)).length = c + (if y k = 0 then 0 else 1)
          rw [lay, List.length_append, HC.out]; split <;> rfl
        clear hf
        rcases hL with ⟨hy, rfl⟩ | ⟨hy, rfl, rfl⟩
        · have hyb : (y k == 0) = true := by simp [hy]
          have HY : Hid (y k = 0) := hy
          clear hy
          go_wp2
          go_round
          case rel => exact ⟨k + 1, c, by omega, by omega, by go_num, rfl, (by rw [HL.out, if_pos HY.out, Nat.add_zero] : c = (lay z y (k + 1)).length)⟩
          case measure => simp [intOf]; omega
        · have hyb : (y k == 0) = false := by simp [hy]
          have HY : Hid (¬ y k = 0) := hy
          clear hy
          go_wp2
          go_round
          case rel => exact ⟨k + 1, c + 1, by omega, by omega, by go_num, by go_num, (by rw [HL.out, if_neg HY.out] : c + 1 = (lay z y (k + 1)).length)⟩
          case measure => simp [intOf]; omega
      · obtain rfl : q = c := by
          have e1 := HQ.out
          have e2 := HC.out
          rw [show k = n by omega] at e2
          omega
        go_wp2
        go_ret
        exact ⟨by simp, HB8.out⟩
end Go.Proofs.Qxb6600284a
