/- FnJoinIsUnionOfWords: the main walk. -/
import Derived.Test.Qxb6600284aUnion
import Derived.Test.Qxb6600284aJoinAny
import Derived.Test.Qxb6600284aClone
import Derived.Test.Qxb6600284aMake
import Derived.Test.Qxb6600284aParts
namespace Go.Proofs.Qxb6600284a
open Go.RowKit

theorem wordsL_ofFn {w : World} {a : Option Addr} {n : Nat} {z y : Nat → Int} (h : Words w a n z y) : WordsL w a (ofFn n z y) := by
  unfold WordsL
  rcases h with h | ⟨b, o, ha, hc⟩
  · exact .inl (by rw [ofFn_length, h])
  · refine .inr ⟨b, o, ha, fun i hi => ?_⟩
    rw [ofFn_length] at hi
    simp only [ofFn_getD n z y i hi]
    exact hc i hi

set_option maxRecDepth 100000 in
set_option maxHeartbeats 8000000 in
theorem union_walk {a1 a2 a3 a4 : Option Addr} {n1 n2 n3 n4 : Nat} {z1 y1 z2 y2 : Nat → Int} (c1 c2 c3 c4 : Nat) (s1 s2 : Int) (w : World) (k1 : n1 ≤ 131072) (k2 : n2 ≤ 131072) (k3 : n3 ≤ 131072) (k4 : n4 ≤ 131072) (k5 : n1 + n2 + n3 + n4 ≤ 131072)
    (HU1 : Hid (∀ i, U64 (y1 i))) (HU2 : Hid (∀ i, U64 (y2 i))) (h1 : Reads .i64 w a1 n1 z1) (h2 : Reads .u64 w a2 n2 y1) (h3 : Reads .i64 w a3 n3 z2) (h4 : Reads .u64 w a4 n4 y2) :
    Calls Try.prog 7 #[.int .i64 s1, .slice a1 n1 c1, .slice a2 n2 c2, .int .i64 s2, .slice a3 n3 c3, .slice a4 n4 c4] w fun e w' => e = .returned (.bool true) ∧ Below w.heap.size w w' := by
  go_enter Try.func7, Try.ntmps7
  go_wp2_with fail
  refine (bytes26_ok a1 a2 a3 a4 n1 n2 n3 n4 c1 c2 c3 c4 s1 s2 w k1 k2 k3 k4).mono ?_
  rintro e w ⟨rfl, rfl⟩
  go_wp2_with fail
  refine (fits_any a2 n2 c1 c2 w (by omega) h1).mono ?_
  rintro e w1 ⟨r, rfl, hr1, m1, rfl⟩
  cases r with
  | false =>
    clear hr1
    go_wp2
    go_ret
    exact ⟨rfl, below_N _ _⟩
  | true =>
  obtain ⟨rfl, hs1⟩ := hr1 rfl
  have HS1 : Hid (Strict n1 z1) := hs1
  clear hr1 hs1
  go_wp2_with fail
  refine (fits_any a4 n4 c3 c4 (w.drewN m1) (by omega) (h3.drewN m1)).mono ?_
  rintro e w1 ⟨r, rfl, hr1, m2, rfl⟩
  cases r with
  | false =>
    clear hr1
    go_wp2
    go_ret
    exact ⟨rfl, below_N _ _⟩
  | true =>
  obtain ⟨rfl, hs2⟩ := hr1 rfl
  have HS2 : Hid (Strict n3 z2) := hs2
  clear hr1 hs2
  have hB0 : Below w.heap.size w ((w.drewN m1).drewN m2) := below_drewN (below_N _ _) _
  obtain ⟨v0, hv0⟩ : ∃ v0, v0 = (w.drewN m1).drewN m2 := ⟨_, rfl⟩
  rw [← hv0] at hB0 ⊢
  have h1 := h1.below hB0
  have h2 := h2.below hB0
  have h3 := h3.below hB0
  have h4 := h4.below hB0
  have HB0 : Hid (Below w.heap.size w v0) := hB0
  clear hB0 hv0
  go_wp2_with fail
  refine (cloneInts_any c1 v0 (by omega) h1).mono ?_
  rintro e v1 ⟨d1, rfl, g1, hb⟩
  have g2 := h2.below hb
  have g3 := h3.below hb
  have g4 := h4.below hb
  have HB1 : Hid (Below w.heap.size w v1) := HB0.out.trans (hb.mono HB0.out.size)
  clear h1 h2 h3 h4 hb HB0
  go_wp2_with fail
  refine (cloneBits_any c2 v1 (by omega) g2).mono ?_
  rintro e v2 ⟨d2, rfl, h2, hb⟩
  have h1 := g1.below hb
  have h3 := g3.below hb
  have h4 := g4.below hb
  have HB2 : Hid (Below w.heap.size w v2) := HB1.out.trans (hb.mono HB1.out.size)
  clear g1 g2 g3 g4 hb HB1
  go_wp2_with fail
  refine (cloneInts_any c3 v2 (by omega) h3).mono ?_
  rintro e v3 ⟨d3, rfl, g3, hb⟩
  have g1 := h1.below hb
  have g2 := h2.below hb
  have g4 := h4.below hb
  have HB3 : Hid (Below w.heap.size w v3) := HB2.out.trans (hb.mono HB2.out.size)
  clear h1 h2 h3 h4 hb HB2
  go_wp2_with fail
  refine (cloneBits_any c4 v3 (by omega) g4).mono ?_
  rintro e v4 ⟨d4, rfl, h4, hb⟩
  have h1 := g1.below hb
  have h2 := g2.below hb
  have h3 := g3.below hb
  have HB4 : Hid (Below w.heap.size w v4) := HB3.out.trans (hb.mono HB3.out.size)
  clear g1 g2 g3 g4 hb HB3
  go_wp2_with fail
  refine (make_any n1 n1 s1 v4 (by omega) h1 h2).mono ?_
  rintro e v5 ⟨d5, c5, rfl, h5, hb, hc5⟩
  have g1 := h1.below hb
  have g2 := h2.below hb
  have g3 := h3.below hb
  have g4 := h4.below hb
  have HB5 : Hid (Below w.heap.size w v5) := HB4.out.trans (hb.mono HB4.out.size)
  clear h1 h2 h3 h4 hb HB4
  go_wp2_with fail
  refine (make_any n3 n3 s2 v5 (by omega) g3 g4).mono ?_
  rintro e v6 ⟨d6, c6, rfl, h6, hb, hc6⟩
  have h1 := g1.below hb
  have h2 := g2.below hb
  have h3 := g3.below hb
  have h4 := g4.below hb
  have g5 := h5.below hb
  have HB6 : Hid (Below w.heap.size w v6) := HB5.out.trans (hb.mono HB5.out.size)
  clear g1 g2 g3 g4 hb HB5 h5
  go_wp2_with fail
  refine (zjoin_any n1 n3 c5 c6 s1 s2 v6 (ofFn_length n1 z1 y1).symm (ofFn_length n3 z2 y2).symm (by omega) (by omega) hc5 hc6 (wordsL_ofFn g5) (wordsL_ofFn h6)).mono ?_
  rintro e v7 ⟨d7, c7, rfl, h7, hb, hc7, _⟩
  have g1 := h1.below hb
  have g2 := h2.below hb
  have g3 := h3.below hb
  have g4 := h4.below hb
  have HB7 : Hid (Below w.heap.size w v7) := HB6.out.trans (hb.mono HB6.out.size)
  clear h1 h2 h3 h4 hb HB6 g5 h6 hc5 hc6 hc7
  have hinc : Inc (mrg (bits .or .u64) (n1 + n3) (ofFn n1 z1 y1) (ofFn n3 z2 y2)) := mrg_inc _ _ _ _ (inc_ofFn y1 HS1.out) (inc_ofFn y2 HS2.out)
  have hleng := mrg_length (bits .or .u64) (n1 + n3) (ofFn n1 z1 y1) (ofFn n3 z2 y2) (inc_ofFn y1 HS1.out) (inc_ofFn y2 HS2.out) (by rw [ofFn_length, ofFn_length]; exact Nat.le_refl _)
  rw [ofFn_length, ofFn_length] at hleng
  have hlook := fun (r : Int × Int) hr (lv ov : Int) (lf of : Bool) (f1 : Found n1 z1 y1 r.1 lv lf) (f2 : Found n3 z2 y2 r.1 ov of) => join_look (k := n1 + n3) HS1.out HS2.out (fun i _ => HU1.out i) (fun i _ => HU2.out i) hr f1 f2
  obtain ⟨ws, hws⟩ : ∃ ws, ws = mrg (bits .or .u64) (n1 + n3) (ofFn n1 z1 y1) (ofFn n3 z2 y2) := ⟨_, rfl⟩
  rw [← hws] at hinc hleng hlook h7 ⊢
  unfold WordsL at h7
  have hst : Hid (Strict ws.length (fun i => (ws.getD i (0, 0)).1)) := strict_of_pairwise hinc
  have HLK : Hid (∀ k lv ov lf of, k < ws.length → Found n1 z1 y1 (ws.getD k (0, 0)).1 lv lf → Found n3 z2 y2 (ws.getD k (0, 0)).1 ov of → (lf = true ∨ of = true) ∧ bits .or .u64 lv ov = (ws.getD k (0, 0)).2) := fun k lv ov lf of hk f1 f2 => hlook _ (getD_mem k hk) lv ov lf of f1 f2
  obtain ⟨q, hq⟩ : ∃ q, q = ws.length := ⟨_, rfl⟩
  obtain ⟨zz, hzz⟩ : ∃ zz : Nat → Int, zz = (fun i => (ws.getD i (0, 0)).1) := ⟨_, rfl⟩
  obtain ⟨yy, hyy⟩ : ∃ yy : Nat → Int, yy = (fun i => (ws.getD i (0, 0)).2) := ⟨_, rfl⟩
  have HLK2 : Hid (∀ k lv ov lf of, k < q → Found n1 z1 y1 (zz k) lv lf → Found n3 z2 y2 (zz k) ov of → (lf = true ∨ of = true) ∧ bits .or .u64 lv ov = yy k) := by rw [hq, hzz, hyy]; exact HLK.out
  rw [← hq, ← hzz, ← hyy] at h7
  rw [← hq, ← hzz] at hst
  rw [← hq] at hleng ⊢
  have HLE : Hid (q + shared (ofFn n3 z2 y2) (ofFn n1 z1 y1) = n1 + n3) := hleng
  have hq3 : q ≤ n1 + n3 := by omega
  clear hinc hleng hlook HLK hq hzz hyy hws
  obtain ⟨smax, hsm⟩ : ∃ t, t = max s1 s2 := ⟨_, rfl⟩
  rw [← hsm]
  have HSM : Hid (smax = max s1 s2) := hsm
  clear hsm
  go_wp2_with fail
  refine (parts_any c7 smax _ (by omega) (by exact h7.below ((Below.refl _ _).alloc (Nat.le_refl _) _))).mono ?_
  rintro e v8 ⟨d8, d9, rfl, h8, h9, hb⟩
  have hb78 : Below v7.heap.size v7 v8 := ((Below.refl _ _).alloc (Nat.le_refl _) _).trans (hb.mono (by simp))
  have h1 := g1.below hb78
  have h2 := g2.below hb78
  have h3 := g3.below hb78
  have h4 := g4.below hb78
  have HB8 : Hid (Below w.heap.size w v8) := HB7.out.trans (hb78.mono HB7.out.size)
  clear g1 g2 g3 g4 hb hb78 HB7 h7
  go_wp2_with fail
  refine (max_any s1 s2 v8).mono ?_
  rw [← HSM.out]
  rintro e v8 ⟨rfl, rfl⟩
  go_wp2_with fail
  refine (strict_any q v8 (by omega) h8).mono ?_
  rintro e w9 ⟨r, rfl, hr9, m9, rfl⟩
  obtain rfl : r = true := hr9.2 hst.out
  clear hr9
  have h1 := h1.drewN m9
  have h2 := h2.drewN m9
  have h3 := h3.drewN m9
  have h4 := h4.drewN m9
  have h8 := h8.drewN m9
  have h9 := h9.drewN m9
  have HB9 : Hid (Below w.heap.size w (v8.drewN m9)) := below_drewN HB8.out m9
  clear HB8
  obtain ⟨v9, hv9⟩ : ∃ v9, v9 = v8.drewN m9 := ⟨_, rfl⟩
  rw [← hv9] at h1 h2 h3 h4 h8 h9 HB9 ⊢
  clear hv9
  go_wp2
  go_loop [17, 18] (fun sh i => ∃ (k c : Nat), k ≤ n1 ∧ c ≤ k ∧ i = .int .i64 k ∧ sh = .int .i64 c ∧ Hid (c = shared (ofFn n3 z2 y2) (ofFn k z1 y1))) (fun _ i => n1 - (intOf i).toNat)
  case atStart => exact ⟨0, 0, Nat.zero_le _, Nat.le_refl _, rfl, rfl, (by simp [shared, ofFn] : 0 = shared (ofFn n3 z2 y2) (ofFn 0 z1 y1))⟩
  case round =>
    obtain ⟨k, c, hk, hck, rfl, rfl, HC⟩ := hrel
    by_cases hlt : k < n1
    · clear h2 h8 h9
      rcases h1 with h0 | ⟨b1, o1, rfl, hc1⟩
      · omega
      have ck := hc1 k hlt
      clear hc1
      go_wp2_with fail
      refine (lookup_any n3 n3 (z1 k) v9 (by omega) HS2.out h3 h4).mono ?_
      rintro e w10 ⟨v, f, hf, rfl, hw⟩
      obtain rfl := hw
      have HST : Hid (shared (ofFn n3 z2 y2) (ofFn (k + 1) z1 y1) = c + (if f = true then 1 else 0)) := by
        show shared (ofFn n3 z2 y2) (ofFn (k + 1) z1 y1) = c + (if f = true then 1 else 0)
        rw [shared_step hf, HC.out]
      clear hf
      cases f
      · go_wp2
        go_round
        case rel => exact ⟨k + 1, c, by omega, by omega, by go_num, rfl, (by rw [HST.out]; simp : c = shared (ofFn n3 z2 y2) (ofFn (k + 1) z1 y1))⟩
        case measure => simp [intOf]; omega
      · go_wp2
        go_round
        case rel => exact ⟨k + 1, c + 1, by omega, by omega, by go_num, by go_num, (by rw [HST.out]; simp : c + 1 = shared (ofFn n3 z2 y2) (ofFn (k + 1) z1 y1))⟩
        case measure => simp [intOf]; omega
    · have hqc : (q : Int) = (n1 : Int) + (n3 : Int) - (c : Int) := by
        have e1 := HLE.out
        have e2 := HC.out
        rw [show k = n1 by omega] at e2
        omega
      have hqb : ((q : Int) != (n1 : Int) + (n3 : Int) - (c : Int)) = false := by rw [← hqc]; simp
      have hcc : c ≤ n1 := by omega
      clear hqc HC HLE
      go_wp2
      go_loop [21] (fun i => ∃ (j : Nat), j ≤ q ∧ i = .int .i64 j) (fun i => q - (intOf i).toNat)
      case atStart => exact ⟨0, Nat.zero_le _, rfl⟩
      case round =>
        obtain ⟨j, hj, rfl⟩ := hrel
        by_cases hjt : j < q
        · rcases h8 with h0 | ⟨b8, o8, rfl, hc8⟩
          · omega
          rcases h9 with h0 | ⟨b9, o9, rfl, hc9⟩
          · omega
          have cz := hc8 j hjt
          have cy := hc9 j hjt
          clear hc8 hc9
          go_wp2_with fail
          refine (lookup_any n1 n1 (zz j) v9 (by omega) HS1.out h1 h2).mono ?_
          rintro e w10 ⟨lv, lf, hf1, rfl, hw⟩
          obtain rfl := hw
          have HF1 : Hid (Found n1 z1 y1 (zz j) lv lf) := hf1
          clear hf1
          go_wp2_with fail
          refine (lookup_any n3 n3 (zz j) w10 (by omega) HS2.out h3 h4).mono ?_
          rintro e w11 ⟨ov, of, hf2, rfl, hw⟩
          obtain rfl := hw
          obtain ⟨hor, hval⟩ := HLK2.out j lv ov lf of hjt HF1.out hf2
          have hvb : (yy j != bits .or .u64 lv ov) = false := by rw [hval]; simp
          clear hf2 HF1 hval
          cases lf
          · obtain rfl : of = true := by simpa using hor
            clear hor
            go_wp2
            go_round
            case rel => exact ⟨j + 1, by omega, by go_num⟩
            case measure => simp [intOf]; omega
          · clear hor
            go_wp2
            go_round
            case rel => exact ⟨j + 1, by omega, by go_num⟩
            case measure => simp [intOf]; omega
        · go_wp2
          go_ret
          exact ⟨rfl, HB9.out⟩
end Go.Proofs.Qxb6600284a
