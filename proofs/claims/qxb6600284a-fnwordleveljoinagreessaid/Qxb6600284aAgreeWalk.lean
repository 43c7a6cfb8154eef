/- FnWordLevelJoinAgrees: the main walk. -/
import Derived.Test.Qxb6600284aAgreeBig
import Derived.Test.Qxb6600284aAgree
import Derived.Test.Qxb6600284aJoinAny
import Derived.Test.Qxb6600284aSame
import Derived.Test.Qxb6600284aClone
import Derived.Test.Qxb6600284aMake
import Derived.Deep.RegionHeld3
namespace Go.Proofs.Qxb6600284a
open Go.RowKit

/-- A variable in new memory that holds a Level. -/
def Whole (v : World) (s : Int) (ws : List (Int × Int)) (t : Value) (wc : World) : Prop :=
  ∃ D d c, t = .pointer (some ⟨D, 0, none⟩) ∧ v.heap.size ≤ D ∧ wc.heap[D]? = some (.cells #[.int .i64 s, .slice d ws.length c] 36 (0, 0)) ∧ WordsL wc d ws ∧ ws.length ≤ c ∧ Below v.heap.size v wc

theorem whole_new {v w7 : World} {s : Int} {ws : List (Int × Int)} {d : Option Addr} {c : Nat} (h : WordsL w7 d ws) (hb : Below v.heap.size v w7) (hc : ws.length ≤ c) :
    Whole v s ws (.pointer (some ⟨w7.heap.size, 0, none⟩)) (w7.alloc (.cells #[.int .i64 s, .slice d ws.length c] 36)) :=
  ⟨w7.heap.size, d, c, rfl, hb.size, heap_alloc_new w7 _, h.below ((Below.refl _ _).alloc (Nat.le_refl _) _), hc, hb.alloc hb.size _⟩

theorem set_two {w : World} {g e : Nat} {u v : Value} (x y : Value) (h : w.heap[g]? = some (.cells #[u, v] e (0, 0))) : ((w.setCell ⟨g, 0, none⟩ x).setCell ⟨g, 1, none⟩ y).heap[g]? = some (.cells #[x, y] e (0, 0)) :=
  heap_setCell_same _ _ _ _ _ _ (heap_setCell_same _ _ _ _ _ x h)

theorem whole_old {v w7 : World} {s : Int} {ws : List (Int × Int)} {d : Option Addr} {c D : Nat} (h : WordsL w7 d ws) (hb : Below v.heap.size v w7) (hc : ws.length ≤ c)
    (hD : w7.heap[D]? = some (.cells #[.int .i64 0, .slice none 0 0] 36 (0, 0))) (hv : v.heap.size ≤ D) :
    Whole v s ws (.pointer (some ⟨D, 0, none⟩)) ((w7.setCell ⟨D, 0, none⟩ (.int .i64 s)).setCell ⟨D, 1, none⟩ (.slice d ws.length c)) :=
  ⟨D, d, c, rfl, hv, set_two _ _ hD, Words.set' (Words.set' h _ _ (words_not_box hD h)) _ _ (words_not_box hD h), hc, (hb.setCell hv _).setCell hv _⟩

theorem keepD {W w' : World} {D : Nat} {x : Obj} (hb : Below W.heap.size W w') (h : W.heap[D]? = some x) : w'.heap[D]? = some x :=
  (hb.block D (Array.getElem?_eq_some_iff.1 h).1).trans h

/-- What a call that hands back a Level leaves, seen from an earlier world. -/
def LPost (wr W' : World) (s : Int) (ws : List (Int × Int)) (e : Ending) (w7 : World) : Prop :=
  ∃ d c, e = .returned (.agg #[.int .i64 s, .slice d ws.length c]) ∧ WordsL w7 d ws ∧ ws.length ≤ c ∧ Below wr.heap.size wr w7 ∧ Below W'.heap.size W' w7

theorem lpost {old : Option Addr} {wr W' : World} {s : Int} {ws : List (Int × Int)} {f : FuncId} {args : Array Value} (hb : Below wr.heap.size wr W') (h : Calls Try.prog f args W' (LevelPost old s ws W')) : Calls Try.prog f args W' (LPost wr W' s ws) :=
  h.mono fun _ _ ⟨d, c, h1, h2, h3, h4, _⟩ => ⟨d, c, h1, h2, h4, hb.trans (h3.mono hb.size), h3⟩

set_option maxRecDepth 100000 in
set_option maxHeartbeats 8000000 in
theorem agree_walk {a1 a2 a3 a4 : Option Addr} {n n3 n4 : Nat} {y1 y2 z yb : Nat → Int} (c1 c2 c3 c4 : Nat) (s1 s2 s3 : Int) (w : World) (k1 : n ≤ 131072) (k3 : n3 ≤ 131072) (k4 : n4 ≤ 131072) (k5 : n + n + n3 + n4 ≤ 131072) (k6 : n ≤ n3)
    (HU1 : Hid (∀ i, U64 (y1 i))) (HU2 : Hid (∀ i, U64 (y2 i))) (h1 : Reads .u64 w a1 n y1) (h2 : Reads .u64 w a2 n y2) (h3 : Reads .i64 w a3 n3 z) (h4 : Reads .u64 w a4 n4 yb) :
    Calls Try.prog 10 #[.int .i64 s1, .slice a1 n c1, .int .i64 s2, .slice a2 n c2, .int .i64 s3, .slice a3 n3 c3, .slice a4 n4 c4] w fun e w' => e = .returned (.bool true) ∧ Below w.heap.size w w' := by
  obtain ⟨i0, hi, hz0, hz1, hz2⟩ := info_parts info41
  go_enter Try.func10, Try.ntmps10
  go_wp2_with fail
  refine (bytes32_ok a1 a2 a3 a4 n n n3 n4 c1 c2 c3 c4 s1 s2 s3 w k1 k1 k3 k4).mono ?_
  rintro e w ⟨rfl, rfl⟩
  go_wp2_with fail
  refine (fits_any a4 n4 c3 c4 w (by omega) h3).mono ?_
  rintro e w1 ⟨r, rfl, hr1, m1, rfl⟩
  cases r with
  | false =>
    clear hr1
    go_wp2
    go_ret
    exact ⟨rfl, below_N _ _⟩
  | true =>
  obtain ⟨rfl, hs⟩ := hr1 rfl
  have HS : Hid (Strict n3 z) := hs
  clear hr1 hs
  go_wp2_with fail
  refine (cloneBits_any c1 (w.drewN m1) (by omega) (h1.drewN m1)).mono ?_
  rintro e v1 ⟨d1, rfl, g1, hb⟩
  have hB : Below w.heap.size w v1 := (below_N w m1).trans hb
  have g2 := h2.below hB
  have g3 := h3.below hB
  have g4 := h4.below hB
  have HB1 : Hid (Below w.heap.size w v1) := hB
  clear h1 h2 h3 h4 hb hB
  go_wp2_with fail
  refine (cloneBits_any c2 v1 (by omega) g2).mono ?_
  rintro e v2 ⟨d2, rfl, h2, hb⟩
  have h1 := g1.below hb
  have h3 := g3.below hb
  have h4 := g4.below hb
  have HB2 : Hid (Below w.heap.size w v2) := HB1.out.trans (hb.mono HB1.out.size)
  clear g1 g2 g3 g4 hb HB1
  go_wp2_with fail
  refine (cloneInts_any c3 v2 (by omega) h3).mono ?_
  rintro e v3 ⟨d3, rfl, g3, hb⟩
  have g1 := h1.below hb
  have g2 := h2.below hb
  have g4 := h4.below hb
  have HB3 : Hid (Below w.heap.size w v3) := HB2.out.trans (hb.mono HB2.out.size)
  clear h1 h2 h3 h4 hb HB2
  go_wp2_with fail
  refine (cloneBits_any c4 v3 (by omega) g4).mono ?_
  rintro e v4 ⟨d4, rfl, h4, hb⟩
  have h1 := g1.below hb
  have h2 := g2.below hb
  have h3 := g3.below hb
  have HB4 : Hid (Below w.heap.size w v4) := HB3.out.trans (hb.mono HB3.out.size)
  clear g1 g2 g3 g4 hb HB3
  go_wp2_with fail
  refine (make_any n3 n3 s3 v4 (by omega) h3 h4).mono ?_
  rintro e v5 ⟨d5, c5, rfl, h5, hb, hc5⟩
  have g1 := h1.below hb
  have g2 := h2.below hb
  have HB5 : Hid (Below w.heap.size w v5) := HB4.out.trans (hb.mono HB4.out.size)
  clear h1 h2 h3 h4 hb HB4 hc5
  go_wp2_with (at_make; refine wpList_make_full _ rfl _ _ 31 rfl w.heap.size 41 i0 (.int .u64 0) 1 Try.underlying31 hi hz0 hz1 _ _ _ _ n rfl rfl rfl rfl ?b2 ?b3 ?b4 ?_)
  case b2 => rw [hz2]; omega
  case b3 => unfold maxLen; omega
  case b4 => have := HB5.out.size; simp; omega
  intro v6 hown6 hgrow6
  have hb56 : Below v5.heap.size v5 v6 := ((Below.refl _ _).alloc (Nat.le_refl _) _).grown hgrow6 (by simp) (fun k h => by cases h)
  have hC : v6.heap[v5.heap.size]? = some (.cells #[.int .i64 s3, .slice d5 n3 c5] 36 (0, 0)) := (hgrow6.block _ (by simp) (by simp)).trans (heap_alloc_new v5 _)
  have hs6 : v5.heap.size + 1 < v6.heap.size := by
    have := (hown6.lt (v5.heap.size + 1) rfl).2
    omega
  have hw5 := HB5.out.size
  have H6 : Hid (v6.ownsRow w.heap.size 41 1 (.slice (some ⟨v5.heap.size + 1, 0, none⟩) n n) n (madeCells #[Value.int IntKind.u64 0] n).toList ∧ v6.heap[v5.heap.size]? = some (.cells #[.int .i64 s3, .slice d5 n3 c5] 36 (0, 0)) ∧ Below v5.heap.size v5 v6) := ⟨hown6, hC, hb56⟩
  clear hgrow6 hb56 hown6 hC
  go_wp2
  go_loopw [17] (fun i wr => ∃ (k : Nat) (xs : List Value), k ≤ n ∧ i = .int .i64 k ∧ wr.ownsRow w.heap.size 41 1 (.slice (some ⟨v5.heap.size + 1, 0, none⟩) n n) n xs ∧ (∀ j, j < k → xs[j]? = some (.int .u64 (bits .or .u64 (y1 j) (y2 j)))) ∧
      Below v5.heap.size v5 wr ∧ wr.heap[v5.heap.size]? = some (.cells #[.int .i64 s3, .slice d5 n3 c5] 36 (0, 0)) ∧ v5.heap.size + 1 < wr.heap.size) (fun i _ => n - (intOf i).toNat)
  case atStart => exact ⟨0, _, Nat.zero_le _, rfl, H6.out.1, fun j hj => by omega, H6.out.2.2, H6.out.2.1, hs6⟩
  case round =>
    clear H6 hs6
    obtain ⟨k, xs, hk, rfl, hown, hx, hbel, hC, hsz⟩ := hrel
    have HX : Hid (∀ j, j < k → xs[j]? = some (.int .u64 (bits .or .u64 (y1 j) (y2 j)))) := hx
    have HO : Hid (wr.ownsRow w.heap.size 41 1 (.slice (some ⟨v5.heap.size + 1, 0, none⟩) n n) n xs) := hown
    have HBE : Hid (Below v5.heap.size v5 wr) := hbel
    have HC : Hid (wr.heap[v5.heap.size]? = some (.cells #[.int .i64 s3, .slice d5 n3 c5] 36 (0, 0))) := hC
    clear hx
    by_cases hlt : k < n
    · have h1 := g1.below hbel
      have h2 := g2.below hbel
      rcases h1 with h0 | ⟨b1, o1, rfl, hc1⟩
      · omega
      rcases h2 with h0 | ⟨b2, o2, rfl, hc2⟩
      · omega
      have e1 := hc1 k hlt
      have e2 := hc2 k hlt
      obtain ⟨u, e3⟩ := own_cell hown k (by omega)
      have e4 := hown.frozenAt k
      have HXL : Hid (xs.length = n * 1) := hown.1
      clear hc1 hc2 g1 g2 h5 hown hbel hC
      go_wp2
      go_region
      go_wp2
      go_roundw
      case rel => exact ⟨k + 1, xs.set k (.int .u64 (bits .or .u64 (y1 k) (y2 k))), by omega, by go_num, (HO.out.stored k _).1, fun j hj => by
          have hl := HXL.out
          by_cases hj2 : j = k
          · subst hj2; rw [List.getElem?_set_self (by omega)]
          · rw [List.getElem?_set_ne (by omega)]; exact HX.out j (by omega), (HBE.out.drew).setCell (by simp) _, (Below.heap_setCell _ _ _ _ (by simp)).trans HC.out, by simp; omega⟩
      case measure => simp [intOf]; omega
    · obtain rfl : n = k := by omega
      have hr0 : Reads .u64 wr (some ⟨v5.heap.size + 1, 0, none⟩) n (fun j => bits .or .u64 (y1 j) (y2 j)) := .inr ⟨_, 0, rfl, fun i hi => by rw [Nat.zero_add, hown.cellAt i (by omega)]; exact HX.out i hi⟩
      have h1 := g1.below hbel
      have h2 := g2.below hbel
      have h6 := h5.below hbel
      have HB6 : Hid (Below w.heap.size w wr) := HB5.out.trans (hbel.mono HB5.out.size)
      clear g1 g2 h5 hown hbel HB5 HX HO
      obtain ⟨q0, q1, q2, q3⟩ := two_cells hC
      clear hC
      obtain ⟨smax, hsm⟩ : ∃ t, t = max s1 s2 := ⟨_, rfl⟩
      have HM : Hid (∀ w0, Calls Try.prog 28 #[.int .i64 s1, .int .i64 s2] w0 fun e w' => e = .returned (.int .i64 smax) ∧ w' = w0) := fun w0 => by rw [hsm]; exact max_any s1 s2 w0
      have HSM : Hid (smax = max s1 s2) := hsm
      clear hsm
      have L0 : Hid (∀ W', Below wr.heap.size wr W' → Calls Try.prog 22 #[.int .i64 smax, .slice (some ⟨v5.heap.size + 1, 0, none⟩) n n, .agg #[.int .i64 s3, .slice d5 n3 c5]] W' (LPost wr W' smax (lay z (fun j => bits .or .u64 (y1 j) (y2 j)) n))) :=
        fun W' hb => lpost hb (zlevel_any n c5 smax s3 W' (by omega) k6 (hr0.below hb) (h6.below hb))
      clear hr0
      have hwr : v5.heap.size < wr.heap.size := by omega
      have hwn : ¬ wr.heap.size = v5.heap.size := by omega
      go_upto_region 19 with fail
      go_cut [18] (fun t wc => Whole wr smax (lay z (fun j => bits .or .u64 (y1 j) (y2 j)) n) t wc)
      case first =>
        clear h1 h2 h6
        go_region_held3 (fun w' => w'.cell? ⟨v5.heap.size, 0, none⟩ = some (.int .i64 s3) ∧ w'.cell? ⟨v5.heap.size, 1, none⟩ = some (.slice d5 n3 c5)) (go_keep)
          (first
            | (go_at_call 28; refine (HM.out _).mono ?_; rintro e w' ⟨rfl, rfl⟩)
            | (go_at_call 22; refine (L0.out _ ?_).mono ?_; (first | exact (Below.refl _ _).drew | exact ((Below.refl _ _).alloc (Nat.le_refl _) _).drew | exact ((Below.refl _ _).drew.alloc (Nat.le_refl _) _)); rintro e w7 ⟨d7, c7, rfl, h7, hc7, hbr, hb7⟩; have z0 := (hbr.cell (p := ⟨v5.heap.size, 0, none⟩) hwr).trans q0; have z1 := (hbr.cell (p := ⟨v5.heap.size, 1, none⟩) hwr).trans q1; try (have hD := (hb7.block wr.heap.size (by simp)).trans (heap_alloc_new wr _); obtain ⟨x0, x1, x2, x3⟩ := two_cells hD)))
        all_goals
          go_wp2_with fail
          go_meet
          case rel => first | exact whole_new h7 hbr hc7 | exact whole_old h7 hbr hc7 hD (Nat.le_refl _)
      case rest =>
        obtain ⟨wa, rfl⟩ : ∃ wa : World, wa = wc := ⟨_, rfl⟩
        obtain ⟨D0, d8, c8, rfl, hD0, hD1, hw8, hc8, hb8⟩ := hcut
        have g1 := h1.below hb8
        have g2 := h2.below hb8
        have g6 := h6.below hb8
        have q0 := (hb8.cell (p := ⟨v5.heap.size, 0, none⟩) hwr).trans q0
        have q1 := (hb8.cell (p := ⟨v5.heap.size, 1, none⟩) hwr).trans q1
        have HB7 : Hid (Below w.heap.size w wa) := HB6.out.trans (hb8.mono HB6.out.size)
        have hwc : v5.heap.size < wa.heap.size := by have := hb8.size; omega
        have hwcn : ¬ wa.heap.size = v5.heap.size := by omega
        have hl1 := lay_le z y1 n
        have hl2 := lay_le z y2 n
        have HEQ : Hid (mrg (bits .or .u64) ((lay z y1 n).length + (lay z y2 n).length) (lay z y1 n) (lay z y2 n) = lay z (fun j => bits .or .u64 (y1 j) (y2 j)) n) := lay_merge HS.out HU1.out HU2.out k6 (Nat.le_refl _)
        have L1 : Hid (∀ W', Below wa.heap.size wa W' → Calls Try.prog 22 #[.int .i64 s1, .slice d1 n n, .agg #[.int .i64 s3, .slice d5 n3 c5]] W' (LPost wa W' s1 (lay z y1 n))) :=
          fun W' hb => lpost hb (zlevel_any n c5 s1 s3 W' (by omega) k6 (g1.below hb) (g6.below hb))
        have L2 : Hid (∀ W', Below wa.heap.size wa W' → Calls Try.prog 22 #[.int .i64 s2, .slice d2 n n, .agg #[.int .i64 s3, .slice d5 n3 c5]] W' (LPost wa W' s2 (lay z y2 n))) :=
          fun W' hb => lpost hb (zlevel_any n c5 s2 s3 W' (by omega) k6 (g2.below hb) (g6.below hb))
        have J : Hid (∀ (W' : World) (e1 e2 : Option Addr) (f1 f2 : Nat), Below wa.heap.size wa W' → (lay z y1 n).length ≤ f1 → (lay z y2 n).length ≤ f2 → WordsL W' e1 (lay z y1 n) → WordsL W' e2 (lay z y2 n) →
            Calls Try.prog 27 #[.agg #[.int .i64 s1, .slice e1 (lay z y1 n).length f1], .agg #[.int .i64 s2, .slice e2 (lay z y2 n).length f2]] W' (LPost wa W' smax (lay z (fun j => bits .or .u64 (y1 j) (y2 j)) n))) :=
          fun W' e1 e2 f1 f2 hb i1 i2 i3 i4 => by
            have h := zjoin_any (lay z y1 n).length (lay z y2 n).length f1 f2 s1 s2 W' rfl rfl (by omega) (by omega) i1 i2 i3 i4
            rw [HEQ.out, ← HSM.out] at h
            exact lpost hb h
        obtain ⟨ws, hws⟩ : ∃ ws, ws = lay z (fun j => bits .or .u64 (y1 j) (y2 j)) n := ⟨_, rfl⟩
        have hwl : ws.length ≤ n := by rw [hws]; exact lay_le _ _ _
        rw [← hws] at J hD1 hw8 hc8
        have H8 : Hid (Below wr.heap.size wr wa ∧ wa.heap[D0]? = some (.cells #[.int .i64 smax, .slice d8 ws.length c8] 36 (0, 0)) ∧ WordsL wa d8 ws) := ⟨hb8, hD1, hw8⟩
        clear h1 h2 h6 g1 g2 g6 hws HEQ L0 HM HSM HB6 hb8 hD1 hw8 hc8
        go_upto_region 20 with fail
        go_cut [19] (fun t wd => Whole wa smax ws t wd)
        case first =>
          go_region_held3 (fun w' => w'.cell? ⟨v5.heap.size, 0, none⟩ = some (.int .i64 s3) ∧ w'.cell? ⟨v5.heap.size, 1, none⟩ = some (.slice d5 n3 c5)) (go_keep)
            (first
              | (go_at_call_of 22 (Value.int IntKind.i64 s1); refine (L1.out _ ?_).mono ?_; (first | exact (Below.refl _ _).drew | exact ((Below.refl _ _).alloc (Nat.le_refl _) _).drew | exact ((Below.refl _ _).drew.alloc (Nat.le_refl _) _)); rintro e w9 ⟨d9, c9, rfl, h9, hc9, hbr9, hb9⟩; have z0 := (hbr9.cell (p := ⟨v5.heap.size, 0, none⟩) hwc).trans q0; have z1 := (hbr9.cell (p := ⟨v5.heap.size, 1, none⟩) hwc).trans q1; have n9 : ¬ w9.heap.size = v5.heap.size := (by have := hbr9.size; omega); try have hD := keepD hb9 (heap_alloc_new wa _))
              | (go_at_call_of 22 (Value.int IntKind.i64 s2); refine (L2.out _ ?_).mono ?_; (first | exact hbr9 | exact hbr9.alloc hbr9.size _); rintro e w10 ⟨d10, c10, rfl, h10, hc10, hbr10, hb10⟩; have y0 := (hbr10.cell (p := ⟨v5.heap.size, 0, none⟩) hwc).trans q0; have y1 := (hbr10.cell (p := ⟨v5.heap.size, 1, none⟩) hwc).trans q1; have n10 : ¬ w10.heap.size = v5.heap.size := (by have := hbr10.size; omega); have h9' : WordsL w10 d9 _ := (by first | exact h9.below hb10 | exact (h9.below ((Below.refl _ _).alloc (Nat.le_refl _) _)).below hb10); (first | have hD2 := keepD hb10 hD | have hD2 := keepD hb10 (heap_alloc_new w9 _) | skip))
              | (go_at_call 27; refine (J.out _ d9 d10 c9 c10 ?_ hc9 hc10 ?_ ?_).mono ?_; (first | exact hbr10 | exact hbr10.alloc hbr10.size _); (first | exact h9' | exact h9'.below ((Below.refl _ _).alloc (Nat.le_refl _) _)); (first | exact h10 | exact h10.below ((Below.refl _ _).alloc (Nat.le_refl _) _)); rintro e w11 ⟨d11, c11, rfl, h11, hc11, hbr11, hb11⟩; have x0 := (hbr11.cell (p := ⟨v5.heap.size, 0, none⟩) hwc).trans q0; have x1 := (hbr11.cell (p := ⟨v5.heap.size, 1, none⟩) hwc).trans q1; have n11 : ¬ w11.heap.size = v5.heap.size := (by have := hbr11.size; omega); (first | (have hD3 := keepD hb11 hD2; obtain ⟨m0, m1, m2, m3⟩ := two_cells hD3) | (have hD3 := keepD hb11 (heap_alloc_new w10 _); obtain ⟨m0, m1, m2, m3⟩ := two_cells hD3) | skip)))
          all_goals
            go_wp2_with fail
            go_meet
            case rel => first | exact whole_new h11 hbr11 hc11 | exact whole_old h11 hbr11 hc11 hD3 (Nat.le_refl _) | exact whole_old h11 hbr11 hc11 hD3 hbr9.size | exact whole_old h11 hbr11 hc11 hD3 hbr10.size
        case rest =>
          obtain ⟨D1, d12, c12, rfl, hE0, hE1, hw12, hc12, hb12⟩ := hcut
          obtain ⟨x0, x1, x2, x3⟩ := two_cells (keepD hb12 H8.out.2.1)
          obtain ⟨t0, t1, t2, t3⟩ := two_cells hE1
          have hw8 : WordsL wc d8 ws := H8.out.2.2.below hb12
          have HB9 : Hid (Below w.heap.size w wc) := HB7.out.trans (hb12.mono HB7.out.size)
          clear H8 L1 L2 J hE1 hb12 HB7 q0 q1 q2 q3
          unfold WordsL at hw8 hw12
          go_wp2_with fail
          refine (same_ok c8 c12 smax wc (by omega) hw8 hw12).mono ?_
          rintro e w13 ⟨rfl, hb13⟩
          have HB10 : Hid (Below w.heap.size w w13) := HB9.out.trans (hb13.mono HB9.out.size)
          clear hb13
          go_wp2
          go_ret
          exact ⟨rfl, HB10.out⟩
end Go.Proofs.Qxb6600284a
