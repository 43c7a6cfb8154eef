/- Level.join: its contract. -/
import Derived.Test.Qxb6600284aLevel
import Derived.Test.Qxb6600284aMrg
import Derived.Deep.RegionLaw
import Derived.Deep.AppendLies
import Derived.Deep.DeepCutAuto
namespace Go.Proofs.Qxb6600284a
open Go.RowKit

/-- The length of a slice in a slot: for a loop's measure. -/
def sliceLen : Value → Nat | .slice _ n _ => n | _ => 0

/-- A list of words that begins with p. -/
theorem wordsL_cons {w : World} {a : Option Addr} {p : Int × Int} {aa : List (Int × Int)} (h : WordsL w a (p :: aa)) :
    ∃ b o, a = some ⟨b, o, none⟩ ∧ w.cell? ⟨b, o, none⟩ = some (.int .i64 p.1) ∧ w.cell? ⟨b, o + 1, none⟩ = some (.int .u64 p.2) ∧ WordsL w (some ⟨b, o + 2, none⟩) aa := by
  rcases h with h | ⟨b, o, ha, hc⟩
  · simp at h
  · refine ⟨b, o, ha, by simpa using (hc 0 (by simp)).1, by simpa using (hc 0 (by simp)).2, .inr ⟨b, o + 2, rfl, fun i hi => ?_⟩⟩
    have := hc (i + 1) (by simpa using hi)
    rw [show o + 2 + i * 2 = o + (i + 1) * 2 by omega]
    simpa using this

theorem wordsL_at {w : World} {b o : Nat} {p : Int × Int} {aa : List (Int × Int)} (h : WordsL w (some ⟨b, o, none⟩) (p :: aa)) :
    w.cell? ⟨b, o, none⟩ = some (.int .i64 p.1) ∧ w.cell? ⟨b, o + 1, none⟩ = some (.int .u64 p.2) ∧ WordsL w (some ⟨b, o + 2, none⟩) aa := by
  obtain ⟨b', o', e, h1, h2, h3⟩ := wordsL_cons h
  cases e
  exact ⟨h1, h2, h3⟩

theorem wordsL_nil (w : World) (a : Option Addr) : WordsL w a [] := .inl rfl

/-- The four blocks that join lays first. -/
def JStart (w : World) (s1 s2 s : Int) (v1 v2 : Value) (W : World) : Prop :=
  W.heap[w.heap.size]? = some (.cells #[.int .i64 s1, v1] 36 (0, 0)) ∧ W.heap[w.heap.size + 1]? = some (.cells #[.int .i64 s2, v2] 36 (0, 0)) ∧ W.heap[w.heap.size + 1 + 1]? = some (.cells #[.int .i64 0, .slice none 0 0] 36 (0, 0)) ∧
    W.heap[w.heap.size + 1 + 1 + 1]? = some (.cells #[.int .i64 s, .slice none 0 0] 36 (0, 0)) ∧ W.heap.size = w.heap.size + 4 ∧ Below w.heap.size w W

theorem jstart {w : World} {s1 s2 s t : Int} {v1 v2 : Value} (h : s = t) : JStart w s1 s2 t v1 v2 ((((w.alloc (.cells #[.int .i64 s1, v1] 36)).alloc (.cells #[.int .i64 s2, v2] 36)).alloc (.cells #[.int .i64 0, .slice none 0 0] 36)).alloc (.cells #[.int .i64 s, .slice none 0 0] 36)) := by
  subst h
  obtain ⟨f1, f2, f3, f4, f5, f6⟩ := four_alloc w (.cells #[.int .i64 s1, v1] 36) (.cells #[.int .i64 s2, v2] 36) (.cells #[.int .i64 0, .slice none 0 0] 36) (.cells #[.int .i64 s, .slice none 0 0] 36)
  exact ⟨f1, f2, f3, f4, f5, f6⟩

/-- What holds at each round's head. -/
structure JInv (f : Int → Int → Int) (w wr : World) (s : Int) (ws : List (Int × Int)) (na nb : Nat) (pa pb : Option Addr) (aa bb js : List (Int × Int)) (v : Value) : Prop where
  la : na = aa.length
  lb : nb = bb.length
  wa : WordsL w pa aa
  wb : WordsL w pb bb
  res : wr.heap[w.heap.size + 1 + 1]? = some (.cells #[.int .i64 0, .slice none 0 0] 36 (0, 0))
  j : wr.heap[w.heap.size + 1 + 1 + 1]? = some (.cells #[.int .i64 s, v] 36 (0, 0))
  own : wr.ownsRow (w.heap.size + 4) 51 2 v js.length (cellsOfWords js)
  eq : js ++ mrg f (na + nb) aa bb = ws
  below : Below w.heap.size w wr
  size : w.heap.size + 4 ≤ wr.heap.size

theorem JInv.drewN {f : Int → Int → Int} {w wr : World} {s : Int} {ws : List (Int × Int)} {na nb : Nat} {pa pb : Option Addr} {aa bb js : List (Int × Int)} {v : Value} (h : JInv f w wr s ws na nb pa pb aa bb js v) (n : Nat) : JInv f w (wr.drewN n) s ws na nb pa pb aa bb js v :=
  ⟨h.la, h.lb, h.wa, h.wb, h.res, h.j, h.own, h.eq, below_drewN h.below n, h.size⟩

theorem hide {p : Prop} (h : p) : Hid p := h

/-- The loop's relation, behind a name. -/
def JRel (f : Int → Int → Int) (w : World) (s : Int) (ws : List (Int × Int)) (N : Nat) (sa sb : Value) (wr : World) : Prop :=
  ∃ (na nb ca cb : Nat) (pa pb : Option Addr) (aa bb js : List (Int × Int)) (v : Value), sa = .slice pa na ca ∧ sb = .slice pb nb cb ∧ na ≤ ca ∧ nb ≤ cb ∧ js.length + na + nb ≤ N ∧ JInv f w wr s ws na nb pa pb aa bb js v

theorem JRel.mk {f : Int → Int → Int} {w : World} {s : Int} {ws : List (Int × Int)} {N : Nat} {wr : World} {na nb ca cb : Nat} {pa pb : Option Addr} {aa bb js : List (Int × Int)} {v : Value} (h1 : na ≤ ca) (h2 : nb ≤ cb) (h3 : js.length + na + nb ≤ N) (h : JInv f w wr s ws na nb pa pb aa bb js v) :
    JRel f w s ws N (.slice pa na ca) (.slice pb nb cb) wr := ⟨na, nb, ca, cb, pa, pb, aa, bb, js, v, rfl, rfl, h1, h2, h3, h⟩

theorem jstep {f : Int → Int → Int} {w wq w1 : World} {s : Int} {ws : List (Int × Int)} {na nb na' nb' g1 cap1 : Nat} {pa pb pa' pb' : Option Addr} {aa bb aa' bb' js : List (Int × Int)} {v : Value} {r : Int × Int}
    (HI : JInv f w wq s ws na nb pa pb aa bb js v) (hb : Below (w.heap.size + 4) wq w1)
    (hown : w1.ownsRow (w.heap.size + 4) 51 2 (.slice (some ⟨g1, 0, none⟩) (js.length + 1) cap1) (js.length + 1) (cellsOfWords js ++ [.int .i64 r.1, .int .u64 r.2]))
    (la : na' = aa'.length) (lb : nb' = bb'.length) (wa : WordsL w pa' aa') (wb : WordsL w pb' bb') (heq : mrg f (na + nb) aa bb = r :: mrg f (na' + nb') aa' bb') :
    JInv f w (w1.setCell ⟨w.heap.size + 1 + 1 + 1, 1, none⟩ (.slice (some ⟨g1, 0, none⟩) (js.length + 1) cap1)) s ws na' nb' pa' pb' aa' bb' (js ++ [r]) (.slice (some ⟨g1, 0, none⟩) (js.length + 1) cap1) := by
  have hg := (hown.lt g1 rfl).1
  refine ⟨la, lb, wa, wb, (Below.heap_setCell _ _ _ _ (by simp)).trans ((hb.block _ (by omega)).trans HI.res), heap_setCell_same _ _ _ _ _ _ ((hb.block _ (by omega)).trans HI.j), ?_, ?_, (HI.below.trans (hb.mono (by omega))).setCell (by simp; omega) _, ?_⟩
  · rw [List.length_append, cellsOfWords_append]
    exact own_other hown _ _ (by simp; omega)
  · rw [← HI.eq, heq]; simp
  · have := hb.size; have := HI.size; simp; omega

theorem wordsL_reslice {w : World} {b o c : Nat} {p : Int × Int} {aa : List (Int × Int)} (h : WordsL w (some ⟨b, o, none⟩) (p :: aa)) (hc : aa.length + 1 ≤ c) : WordsL w (if c = 1 then some ⟨b, o, none⟩ else some ⟨b, o + 2, none⟩) aa := by
  by_cases e : c = 1
  · obtain rfl : aa = [] := List.eq_nil_of_length_eq_zero (by omega)
    exact .inl rfl
  · rw [if_neg e]; exact (wordsL_at h).2.2

theorem mrg_a1 {f : Int → Int → Int} {p : Int × Int} {aa : List (Int × Int)} {na : Nat} (h : na = aa.length + 1) : mrg f (na + 0) (p :: aa) [] = p :: mrg f (na - 1 + 0) aa [] := by
  rw [show na + 0 = (na - 1 + 0) + 1 by omega, mrg]; rfl
theorem mrg_a2 {f : Int → Int → Int} {p q : Int × Int} {aa bb : List (Int × Int)} {na nb : Nat} (h : na = aa.length + 1) (hlt : p.1 < q.1) : mrg f (na + nb) (p :: aa) (q :: bb) = p :: mrg f (na - 1 + nb) aa (q :: bb) := by
  rw [show na + nb = (na - 1 + nb) + 1 by omega, mrg, if_pos hlt]
theorem mrg_b1 {f : Int → Int → Int} {q : Int × Int} {bb : List (Int × Int)} {nb : Nat} (h : nb = bb.length + 1) : mrg f (0 + nb) [] (q :: bb) = q :: mrg f (0 + (nb - 1)) [] bb := by
  rw [show 0 + nb = (0 + (nb - 1)) + 1 by omega, mrg]
theorem mrg_b2 {f : Int → Int → Int} {p q : Int × Int} {aa bb : List (Int × Int)} {na nb : Nat} (h : nb = bb.length + 1) (hlt : q.1 < p.1) : mrg f (na + nb) (p :: aa) (q :: bb) = q :: mrg f (na + (nb - 1)) (p :: aa) bb := by
  rw [show na + nb = (na + (nb - 1)) + 1 by omega, mrg, if_neg (by omega), if_pos hlt]
theorem mrg_c {f : Int → Int → Int} {p q : Int × Int} {aa bb : List (Int × Int)} {na nb : Nat} (h : na = aa.length + 1) (h' : nb = bb.length + 1) (he : p.1 = q.1) : mrg f (na + nb) (p :: aa) (q :: bb) = (p.1, f p.2 q.2) :: mrg f (na - 1 + (nb - 1)) aa bb := by
  rw [show na + nb = (na - 1 + (nb - 1) + 1) + 1 by omega, mrg, if_neg (by omega), if_neg (by omega), mrg_fuel f (na - 1 + (nb - 1) + 1) (na - 1 + (nb - 1)) aa bb (by omega) (by omega)]

/- join where 'o' has a word. -/
set_option maxRecDepth 100000 in
set_option maxHeartbeats 40000000 in
theorem join_some (a1 a2 : Option Addr) (n1 n2 c1 c2 : Nat) (as0 bs0 : List (Int × Int)) (s1 s2 s : Int) (w : World) (HS : Hid (s = max s1 s2)) (HN : Hid (n1 = as0.length ∧ n2 = bs0.length)) (hm1 : n1 ≤ 1048576) (hm2 : n2 ≤ 1048576) (hk1 : n1 ≤ c1) (hk2 : n2 ≤ c2) (hp2 : 0 < n2)
    (hw1 : WordsL w a1 as0) (hw2 : WordsL w a2 bs0) :
    Calls Try.prog 35 #[.agg #[.int .i64 s1, .slice a1 n1 c1], .agg #[.int .i64 s2, .slice a2 n2 c2]] w (LevelPost a1 s (mrg (bits .or .u64) (n1 + n2) as0 bs0) w) := by
  obtain ⟨i0, hi, hz0, hz1, hz2⟩ := info_parts info51
  have hn2b : ((n2 : Int) == 0) = false := by simp; omega
  go_enter Try.func35, Try.ntmps35
  go_upto_region 1 with fail
  go_cut [5] (fun t5 wc => t5 = .pointer (some ⟨w.heap.size + 1 + 1 + 1, 0, none⟩) ∧ JStart w s1 s2 s (.slice a1 n1 c1) (.slice a2 n2 c2) wc)
  case first =>
    clear hw1 hw2
    go_wp2
    all_goals
      go_meet
      case rel => exact ⟨rfl, jstart (by have := HS.out; omega)⟩
  case rest =>
    obtain ⟨rfl, f1, f2, f3, f4, f5, f6⟩ := hcut
    obtain ⟨p0, p1, p2, p3⟩ := two_cells f1
    obtain ⟨q0, q1, q2, q3⟩ := two_cells f2
    have H : Hid (wc.heap[w.heap.size + 1 + 1]? = some (.cells #[.int .i64 0, .slice none 0 0] 36 (0, 0)) ∧ wc.heap[w.heap.size + 1 + 1 + 1]? = some (.cells #[.int .i64 s, .slice none 0 0] 36 (0, 0)) ∧ wc.heap.size = w.heap.size + 4 ∧ Below w.heap.size w wc) := ⟨f3, f4, f5, f6⟩
    clear f1 f2 f3 f4 f5 f6
    go_wp2
    go_quiet (fail)
    go_wp2
    go_loopw [6, 7] (fun sa sb wr => JRel (bits .or .u64) w s (mrg (bits .or .u64) (n1 + n2) as0 bs0) (n1 + n2) sa sb wr) (fun sa sb _ => sliceLen sa + sliceLen sb)
    case atStart =>
      obtain ⟨f3, f4, f5, f6⟩ := H.out
      exact JRel.mk (js := []) (v := .slice none 0 0) hk1 hk2 (by simp) ⟨HN.out.1, HN.out.2, hw1, hw2, f3, f4, World.ownsRow_nil _ _ _ _, by simp, by first | exact f6 | exact below_drewN f6 _, by first | exact Nat.le_of_eq f5.symm | (simp; omega)⟩
    case round =>
      clear p0 p1 p2 p3 q0 q1 q2 q3 H hw1 hw2
      obtain ⟨na, nb, ca, cb, pa, pb, aa, bb, js, v, rfl, rfl, hca, hcb, hsum, HI⟩ := hrel
      cases aa with
      | nil =>
        obtain rfl : na = 0 := HI.la
        cases bb with
        | nil =>
          obtain rfl : nb = 0 := HI.lb
          obtain ⟨r0, r1, r2, r3⟩ := two_cells HI.res
          have hsz := HI.size
          have hws : js = (mrg (bits .or .u64) (n1 + n2) as0 bs0) := by have := HI.eq; rw [← this]; simp [mrg]
          rcases HI.own.2 with ⟨hv, hl⟩ | ⟨g, cap, cur, hv, hg, _, hc, _⟩
          all_goals
            have HI2 := HI
            rw [hv] at HI2
            obtain ⟨l0, l1, l2, l3⟩ := two_cells HI2.j
            have HJ : Hid (JInv (bits .or .u64) w wr s (mrg (bits .or .u64) (n1 + n2) as0 bs0) 0 0 pa pb [] [] js v) := HI
            have HV := hide hv
            have HWS := hide hws
            clear HI HI2 hv hws
            go_wp2
          · refine bodyPost_ret (v := .agg #[.int .i64 s, .slice none 0 0]) (by simp [results, Try.results35, go_sem, r0, r1]) rfl ?_
            exact LevelPost.mk none 0 0 (by rw [← HWS.out, hl]) (.inl (by rw [← HWS.out, hl])) ((HJ.out.below.setCell (by simp; omega) _).setCell (by simp; omega) _) (Nat.le_refl _) (fun x h => by cases h)
          · refine bodyPost_ret (v := .agg #[.int .i64 s, .slice (some ⟨g, 0, none⟩) js.length cap]) (by simp [results, Try.results35, go_sem, r0, r1]) rfl ?_
            have hown := HJ.out.own
            rw [HV.out] at hown
            exact LevelPost.mk _ _ cap (by rw [← HWS.out]) (by rw [← HWS.out]; exact wordsL_of_own (own_other (own_other hown _ _ (by simp; omega)) _ _ (by simp; omega)) rfl) ((HJ.out.below.setCell (by simp; omega) _).setCell (by simp; omega) _) hc (fun x h => by cases h; exact .inl (by simp; omega))
        | cons q bb =>
          obtain ⟨b2, o2, rfl, cb0, _, _⟩ := wordsL_cons HI.wb
          have hb2 : b2 < w.heap.size := World.block_lt_of_cell? w ⟨b2, o2, none⟩ cb0
          have hnb : nb = bb.length + 1 := HI.lb
          have HWB : Hid (WordsL w (some ⟨b2, o2, none⟩) (q :: bb)) := HI.wb
          clear cb0
          have HNB : Hid (nb = bb.length + 1) := hnb
          have hnb1 : 0 < nb := by omega
          have hnb2 : (1 : Int) ≤ (nb : Int) := by omega
          have hnb3 : ((nb : Int) == 0) = false := by simp; omega
          clear hnb
          obtain ⟨l0, l1, l2, l3⟩ := two_cells HI.j
          have hsz := HI.size
          have hsz3 : w.heap.size + 1 + 1 + 1 < wr.heap.size := by omega
          have d2 := (HI.below.cell (p := ⟨b2, o2, none⟩) hb2).trans (wordsL_at HWB.out).1
          have d3 := (HI.below.cell (p := ⟨b2, o2 + 1, none⟩) hb2).trans (wordsL_at HWB.out).2.1
          have hb2' : b2 < wr.heap.size := by omega
          have HO : Hid (wr.ownsRow (w.heap.size + 4) 51 2 v js.length (cellsOfWords js)) := HI.own
          have HJ : Hid (JInv (bits .or .u64) w wr s (mrg (bits .or .u64) (n1 + n2) as0 bs0) 0 nb pa (some ⟨b2, o2, none⟩) [] (q :: bb) js v) := HI
          clear HI
          go_wp2
          go_quiet (fail)
          obtain ⟨wp, hwq⟩ : ∃ wp, wp = wr.drewN nq := ⟨_, rfl⟩
          have HI := HJ.out.drewN nq
          rw [← hwq] at HI ⊢
          clear HJ hwq HO hsz hsz3 l0 l1 l2 l3 d2 d3 hb2'
          obtain ⟨l0, l1, l2, l3⟩ := two_cells HI.j
          have hsz := HI.size
          have hsz3 : w.heap.size + 1 + 1 + 1 < wp.heap.size := by omega
          have d2 := (HI.below.cell (p := ⟨b2, o2, none⟩) hb2).trans (wordsL_at HWB.out).1
          have d3 := (HI.below.cell (p := ⟨b2, o2 + 1, none⟩) hb2).trans (wordsL_at HWB.out).2.1
          have hb2' : b2 < wp.heap.size := by omega
          have HO : Hid (wp.ownsRow (w.heap.size + 4) 51 2 v js.length (cellsOfWords js)) := HI.own
          have HJ : Hid (JInv (bits .or .u64) w wp s (mrg (bits .or .u64) (n1 + n2) as0 bs0) 0 nb pa (some ⟨b2, o2, none⟩) [] (q :: bb) js v) := HI
          clear HI
          go_wp2
          go_quiet (fail)
          obtain ⟨wq, hwq⟩ : ∃ wq, wq = wp.drewN nq := ⟨_, rfl⟩
          have HI := HJ.out.drewN nq
          rw [← hwq] at HI ⊢
          clear HJ hwq HO hsz hsz3 l0 l1 l2 l3 d2 d3 hb2'
          obtain ⟨l0, l1, l2, l3⟩ := two_cells HI.j
          have hsz := HI.size
          have hsz3 : w.heap.size + 1 + 1 + 1 < wq.heap.size := by omega
          have d2 := (HI.below.cell (p := ⟨b2, o2, none⟩) hb2).trans (wordsL_at HWB.out).1
          have d3 := (HI.below.cell (p := ⟨b2, o2 + 1, none⟩) hb2).trans (wordsL_at HWB.out).2.1
          have hb2' : b2 < wq.heap.size := by omega
          have HO : Hid (wq.ownsRow (w.heap.size + 4) 51 2 v js.length (cellsOfWords js)) := HI.own
          have HJ : Hid (JInv (bits .or .u64) w wq s (mrg (bits .or .u64) (n1 + n2) as0 bs0) 0 nb pa (some ⟨b2, o2, none⟩) [] (q :: bb) js v) := HI
          clear HI
          go_wp2
          go_region_law (refine step_append_lies _ rfl (.tmp 103) (.tmp 107) 26 rfl (w.heap.size + 4) 51 i0 (.agg #[.int .i64 0, .int .u64 0]) 2 16 Try.underlying26 hi hz0 hz1 hz2 rfl (by decide) v js.length (cellsOfWords js) rfl (by first | exact (HO.out.alloc _).drew | exact HO.out.drew.alloc _) ⟨wq.heap.size, 0, none⟩ 1 1 [.int .i64 q.1, .int .u64 (q.2)] rfl rfl (World.news_of_block (cs := #[.int .i64 q.1, .int .u64 (q.2)]) (heap_alloc_new wq _)) (by simp [Value.oneCell']) (by decide) (by unfold maxLen; omega) (by omega) (by simp; omega) _ rfl ?_; intro g1 cap1 w1 hown1 hgrow1 hat1 hlt1; have hbl1 : Below (w.heap.size + 4) wq w1 := Below.grown (by first | exact ((Below.refl _ _).alloc hsz _).drew | exact ((Below.refl _ _).drew.alloc hsz _)) hgrow1 (by simp; omega) (fun k hk => (HO.out.lt k hk).1); have m1 := (hbl1.cell (p := ⟨w.heap.size + 1 + 1 + 1, 1, none⟩) (by simp)).trans l1; have m2 := (hbl1.frozen (p := ⟨w.heap.size + 1 + 1 + 1, 1, none⟩) (by simp)).trans l3)
          all_goals
            have HO1 : Hid (w1.ownsRow (w.heap.size + 4) 51 2 (.slice (some ⟨g1, 0, none⟩) (js.length + 1) cap1) (js.length + 1) (cellsOfWords js ++ [.int .i64 q.1, .int .u64 (q.2)])) := hown1
            have HB1 : Hid (Below (w.heap.size + 4) wq w1) := hbl1
            clear hown1 hbl1 hgrow1 hat1
            try simp only [Exit.inBlock, List.getElem_toArray, List.getElem_cons_succ, List.getElem_cons_zero, Act.put, List.setIfInBounds_toArray, List.set_cons_zero, List.set_cons_succ]
            go_wp2
            go_roundw
            case rel => exact JRel.mk (by omega) (by omega) (by simp; omega) (jstep HJ.out HB1.out HO1.out rfl (by have := HNB.out; omega) HJ.out.wa (wordsL_reslice HWB.out (by have := HNB.out; omega)) (mrg_b1 HNB.out))
            case measure => simp [sliceLen]; omega
      | cons p aa =>
        obtain ⟨b1, o1, rfl, ca0, _, _⟩ := wordsL_cons HI.wa
        have hb1 : b1 < w.heap.size := World.block_lt_of_cell? w ⟨b1, o1, none⟩ ca0
        have hna : na = aa.length + 1 := HI.la
        have HWA : Hid (WordsL w (some ⟨b1, o1, none⟩) (p :: aa)) := HI.wa
        clear ca0
        cases bb with
        | nil =>
          obtain rfl : nb = 0 := HI.lb
          have HNA : Hid (na = aa.length + 1) := hna
          have hna1 : 0 < na := by omega
          have hna2 : (1 : Int) ≤ (na : Int) := by omega
          have hna3 : ((na : Int) == 0) = false := by simp; omega
          clear hna
          obtain ⟨l0, l1, l2, l3⟩ := two_cells HI.j
          have hsz := HI.size
          have hsz3 : w.heap.size + 1 + 1 + 1 < wr.heap.size := by omega
          have d0 := (HI.below.cell (p := ⟨b1, o1, none⟩) hb1).trans (wordsL_at HWA.out).1
          have d1 := (HI.below.cell (p := ⟨b1, o1 + 1, none⟩) hb1).trans (wordsL_at HWA.out).2.1
          have hb1' : b1 < wr.heap.size := by omega
          have HO : Hid (wr.ownsRow (w.heap.size + 4) 51 2 v js.length (cellsOfWords js)) := HI.own
          have HJ : Hid (JInv (bits .or .u64) w wr s (mrg (bits .or .u64) (n1 + n2) as0 bs0) na 0 (some ⟨b1, o1, none⟩) pb (p :: aa) [] js v) := HI
          clear HI
          go_wp2
          go_quiet (fail)
          obtain ⟨wq, hwq⟩ : ∃ wq, wq = wr.drewN nq := ⟨_, rfl⟩
          have HI := HJ.out.drewN nq
          rw [← hwq] at HI ⊢
          clear HJ hwq HO hsz hsz3 l0 l1 l2 l3 d0 d1 hb1'
          obtain ⟨l0, l1, l2, l3⟩ := two_cells HI.j
          have hsz := HI.size
          have hsz3 : w.heap.size + 1 + 1 + 1 < wq.heap.size := by omega
          have d0 := (HI.below.cell (p := ⟨b1, o1, none⟩) hb1).trans (wordsL_at HWA.out).1
          have d1 := (HI.below.cell (p := ⟨b1, o1 + 1, none⟩) hb1).trans (wordsL_at HWA.out).2.1
          have hb1' : b1 < wq.heap.size := by omega
          have HO : Hid (wq.ownsRow (w.heap.size + 4) 51 2 v js.length (cellsOfWords js)) := HI.own
          have HJ : Hid (JInv (bits .or .u64) w wq s (mrg (bits .or .u64) (n1 + n2) as0 bs0) na 0 (some ⟨b1, o1, none⟩) pb (p :: aa) [] js v) := HI
          clear HI
          go_wp2
          go_region_law (refine step_append_lies _ rfl (.tmp 78) (.tmp 82) 26 rfl (w.heap.size + 4) 51 i0 (.agg #[.int .i64 0, .int .u64 0]) 2 16 Try.underlying26 hi hz0 hz1 hz2 rfl (by decide) v js.length (cellsOfWords js) rfl (by first | exact (HO.out.alloc _).drew | exact HO.out.drew.alloc _) ⟨wq.heap.size, 0, none⟩ 1 1 [.int .i64 p.1, .int .u64 (p.2)] rfl rfl (World.news_of_block (cs := #[.int .i64 p.1, .int .u64 (p.2)]) (heap_alloc_new wq _)) (by simp [Value.oneCell']) (by decide) (by unfold maxLen; omega) (by omega) (by simp; omega) _ rfl ?_; intro g1 cap1 w1 hown1 hgrow1 hat1 hlt1; have hbl1 : Below (w.heap.size + 4) wq w1 := Below.grown (by first | exact ((Below.refl _ _).alloc hsz _).drew | exact ((Below.refl _ _).drew.alloc hsz _)) hgrow1 (by simp; omega) (fun k hk => (HO.out.lt k hk).1); have m1 := (hbl1.cell (p := ⟨w.heap.size + 1 + 1 + 1, 1, none⟩) (by simp)).trans l1; have m2 := (hbl1.frozen (p := ⟨w.heap.size + 1 + 1 + 1, 1, none⟩) (by simp)).trans l3)
          all_goals
            have HO1 : Hid (w1.ownsRow (w.heap.size + 4) 51 2 (.slice (some ⟨g1, 0, none⟩) (js.length + 1) cap1) (js.length + 1) (cellsOfWords js ++ [.int .i64 p.1, .int .u64 (p.2)])) := hown1
            have HB1 : Hid (Below (w.heap.size + 4) wq w1) := hbl1
            clear hown1 hbl1 hgrow1 hat1
            try simp only [Exit.inBlock, List.getElem_toArray, List.getElem_cons_succ, List.getElem_cons_zero, Act.put, List.setIfInBounds_toArray, List.set_cons_zero, List.set_cons_succ]
            go_wp2
            go_roundw
            case rel => exact JRel.mk (by omega) (by omega) (by simp; omega) (jstep HJ.out HB1.out HO1.out (by have := HNA.out; omega) rfl (wordsL_reslice HWA.out (by have := HNA.out; omega)) HJ.out.wb (mrg_a1 HNA.out))
            case measure => simp [sliceLen]; omega
        | cons q bb =>
          obtain ⟨b2, o2, rfl, cb0, _, _⟩ := wordsL_cons HI.wb
          have hb2 : b2 < w.heap.size := World.block_lt_of_cell? w ⟨b2, o2, none⟩ cb0
          have hnb : nb = bb.length + 1 := HI.lb
          have HWB : Hid (WordsL w (some ⟨b2, o2, none⟩) (q :: bb)) := HI.wb
          clear cb0
          have HNA : Hid (na = aa.length + 1) := hna
          have hna1 : 0 < na := by omega
          have hna2 : (1 : Int) ≤ (na : Int) := by omega
          have hna3 : ((na : Int) == 0) = false := by simp; omega
          have HNB : Hid (nb = bb.length + 1) := hnb
          have hnb1 : 0 < nb := by omega
          have hnb2 : (1 : Int) ≤ (nb : Int) := by omega
          have hnb3 : ((nb : Int) == 0) = false := by simp; omega
          clear hna
          clear hnb
          rcases Int.lt_trichotomy p.1 q.1 with hx | hx | hx
          · obtain ⟨l0, l1, l2, l3⟩ := two_cells HI.j
            have hsz := HI.size
            have hsz3 : w.heap.size + 1 + 1 + 1 < wr.heap.size := by omega
            have d0 := (HI.below.cell (p := ⟨b1, o1, none⟩) hb1).trans (wordsL_at HWA.out).1
            have d1 := (HI.below.cell (p := ⟨b1, o1 + 1, none⟩) hb1).trans (wordsL_at HWA.out).2.1
            have hb1' : b1 < wr.heap.size := by omega
            have d2 := (HI.below.cell (p := ⟨b2, o2, none⟩) hb2).trans (wordsL_at HWB.out).1
            have d3 := (HI.below.cell (p := ⟨b2, o2 + 1, none⟩) hb2).trans (wordsL_at HWB.out).2.1
            have hb2' : b2 < wr.heap.size := by omega
            have HO : Hid (wr.ownsRow (w.heap.size + 4) 51 2 v js.length (cellsOfWords js)) := HI.own
            have HJ : Hid (JInv (bits .or .u64) w wr s (mrg (bits .or .u64) (n1 + n2) as0 bs0) na nb (some ⟨b1, o1, none⟩) (some ⟨b2, o2, none⟩) (p :: aa) (q :: bb) js v) := HI
            clear HI
            go_wp2
            go_quiet (fail)
            obtain ⟨wq, hwq⟩ : ∃ wq, wq = wr.drewN nq := ⟨_, rfl⟩
            have HI := HJ.out.drewN nq
            rw [← hwq] at HI ⊢
            clear HJ hwq HO hsz hsz3 l0 l1 l2 l3 d0 d1 hb1' d2 d3 hb2'
            obtain ⟨l0, l1, l2, l3⟩ := two_cells HI.j
            have hsz := HI.size
            have hsz3 : w.heap.size + 1 + 1 + 1 < wq.heap.size := by omega
            have d0 := (HI.below.cell (p := ⟨b1, o1, none⟩) hb1).trans (wordsL_at HWA.out).1
            have d1 := (HI.below.cell (p := ⟨b1, o1 + 1, none⟩) hb1).trans (wordsL_at HWA.out).2.1
            have hb1' : b1 < wq.heap.size := by omega
            have d2 := (HI.below.cell (p := ⟨b2, o2, none⟩) hb2).trans (wordsL_at HWB.out).1
            have d3 := (HI.below.cell (p := ⟨b2, o2 + 1, none⟩) hb2).trans (wordsL_at HWB.out).2.1
            have hb2' : b2 < wq.heap.size := by omega
            have HO : Hid (wq.ownsRow (w.heap.size + 4) 51 2 v js.length (cellsOfWords js)) := HI.own
            have HJ : Hid (JInv (bits .or .u64) w wq s (mrg (bits .or .u64) (n1 + n2) as0 bs0) na nb (some ⟨b1, o1, none⟩) (some ⟨b2, o2, none⟩) (p :: aa) (q :: bb) js v) := HI
            clear HI
            go_wp2
            go_region_law (refine step_append_lies _ rfl (.tmp 78) (.tmp 82) 26 rfl (w.heap.size + 4) 51 i0 (.agg #[.int .i64 0, .int .u64 0]) 2 16 Try.underlying26 hi hz0 hz1 hz2 rfl (by decide) v js.length (cellsOfWords js) rfl (by first | exact (HO.out.alloc _).drew | exact HO.out.drew.alloc _) ⟨wq.heap.size, 0, none⟩ 1 1 [.int .i64 p.1, .int .u64 (p.2)] rfl rfl (World.news_of_block (cs := #[.int .i64 p.1, .int .u64 (p.2)]) (heap_alloc_new wq _)) (by simp [Value.oneCell']) (by decide) (by unfold maxLen; omega) (by omega) (by simp; omega) _ rfl ?_; intro g1 cap1 w1 hown1 hgrow1 hat1 hlt1; have hbl1 : Below (w.heap.size + 4) wq w1 := Below.grown (by first | exact ((Below.refl _ _).alloc hsz _).drew | exact ((Below.refl _ _).drew.alloc hsz _)) hgrow1 (by simp; omega) (fun k hk => (HO.out.lt k hk).1); have m1 := (hbl1.cell (p := ⟨w.heap.size + 1 + 1 + 1, 1, none⟩) (by simp)).trans l1; have m2 := (hbl1.frozen (p := ⟨w.heap.size + 1 + 1 + 1, 1, none⟩) (by simp)).trans l3)
            all_goals
              have HO1 : Hid (w1.ownsRow (w.heap.size + 4) 51 2 (.slice (some ⟨g1, 0, none⟩) (js.length + 1) cap1) (js.length + 1) (cellsOfWords js ++ [.int .i64 p.1, .int .u64 (p.2)])) := hown1
              have HB1 : Hid (Below (w.heap.size + 4) wq w1) := hbl1
              clear hown1 hbl1 hgrow1 hat1
              try simp only [Exit.inBlock, List.getElem_toArray, List.getElem_cons_succ, List.getElem_cons_zero, Act.put, List.setIfInBounds_toArray, List.set_cons_zero, List.set_cons_succ]
              go_wp2
              go_roundw
              case rel => exact JRel.mk (by omega) (by omega) (by simp; omega) (jstep HJ.out HB1.out HO1.out (by have := HNA.out; omega) HJ.out.lb (wordsL_reslice HWA.out (by have := HNA.out; omega)) HJ.out.wb (mrg_a2 HNA.out hx))
              case measure => simp [sliceLen]; omega
          · have hx1 : decide (p.1 < q.1) = false := by simp; omega
            have hx2 : decide (q.1 < p.1) = false := by simp; omega
            have HX : Hid (p.1 = q.1) := hx
            clear hx
            obtain ⟨l0, l1, l2, l3⟩ := two_cells HI.j
            have hsz := HI.size
            have hsz3 : w.heap.size + 1 + 1 + 1 < wr.heap.size := by omega
            have d0 := (HI.below.cell (p := ⟨b1, o1, none⟩) hb1).trans (wordsL_at HWA.out).1
            have d1 := (HI.below.cell (p := ⟨b1, o1 + 1, none⟩) hb1).trans (wordsL_at HWA.out).2.1
            have hb1' : b1 < wr.heap.size := by omega
            have d2 := (HI.below.cell (p := ⟨b2, o2, none⟩) hb2).trans (wordsL_at HWB.out).1
            have d3 := (HI.below.cell (p := ⟨b2, o2 + 1, none⟩) hb2).trans (wordsL_at HWB.out).2.1
            have hb2' : b2 < wr.heap.size := by omega
            have HO : Hid (wr.ownsRow (w.heap.size + 4) 51 2 v js.length (cellsOfWords js)) := HI.own
            have HJ : Hid (JInv (bits .or .u64) w wr s (mrg (bits .or .u64) (n1 + n2) as0 bs0) na nb (some ⟨b1, o1, none⟩) (some ⟨b2, o2, none⟩) (p :: aa) (q :: bb) js v) := HI
            clear HI
            go_wp2
            go_quiet (fail)
            obtain ⟨wp, hwq⟩ : ∃ wp, wp = wr.drewN nq := ⟨_, rfl⟩
            have HI := HJ.out.drewN nq
            rw [← hwq] at HI ⊢
            clear HJ hwq HO hsz hsz3 l0 l1 l2 l3 d0 d1 hb1' d2 d3 hb2'
            obtain ⟨l0, l1, l2, l3⟩ := two_cells HI.j
            have hsz := HI.size
            have hsz3 : w.heap.size + 1 + 1 + 1 < wp.heap.size := by omega
            have d0 := (HI.below.cell (p := ⟨b1, o1, none⟩) hb1).trans (wordsL_at HWA.out).1
            have d1 := (HI.below.cell (p := ⟨b1, o1 + 1, none⟩) hb1).trans (wordsL_at HWA.out).2.1
            have hb1' : b1 < wp.heap.size := by omega
            have d2 := (HI.below.cell (p := ⟨b2, o2, none⟩) hb2).trans (wordsL_at HWB.out).1
            have d3 := (HI.below.cell (p := ⟨b2, o2 + 1, none⟩) hb2).trans (wordsL_at HWB.out).2.1
            have hb2' : b2 < wp.heap.size := by omega
            have HO : Hid (wp.ownsRow (w.heap.size + 4) 51 2 v js.length (cellsOfWords js)) := HI.own
            have HJ : Hid (JInv (bits .or .u64) w wp s (mrg (bits .or .u64) (n1 + n2) as0 bs0) na nb (some ⟨b1, o1, none⟩) (some ⟨b2, o2, none⟩) (p :: aa) (q :: bb) js v) := HI
            clear HI
            go_wp2
            go_quiet (fail)
            obtain ⟨wq, hwq⟩ : ∃ wq, wq = wp.drewN nq := ⟨_, rfl⟩
            have HI := HJ.out.drewN nq
            rw [← hwq] at HI ⊢
            clear HJ hwq HO hsz hsz3 l0 l1 l2 l3 d0 d1 hb1' d2 d3 hb2'
            obtain ⟨l0, l1, l2, l3⟩ := two_cells HI.j
            have hsz := HI.size
            have hsz3 : w.heap.size + 1 + 1 + 1 < wq.heap.size := by omega
            have d0 := (HI.below.cell (p := ⟨b1, o1, none⟩) hb1).trans (wordsL_at HWA.out).1
            have d1 := (HI.below.cell (p := ⟨b1, o1 + 1, none⟩) hb1).trans (wordsL_at HWA.out).2.1
            have hb1' : b1 < wq.heap.size := by omega
            have d2 := (HI.below.cell (p := ⟨b2, o2, none⟩) hb2).trans (wordsL_at HWB.out).1
            have d3 := (HI.below.cell (p := ⟨b2, o2 + 1, none⟩) hb2).trans (wordsL_at HWB.out).2.1
            have hb2' : b2 < wq.heap.size := by omega
            have HO : Hid (wq.ownsRow (w.heap.size + 4) 51 2 v js.length (cellsOfWords js)) := HI.own
            have HJ : Hid (JInv (bits .or .u64) w wq s (mrg (bits .or .u64) (n1 + n2) as0 bs0) na nb (some ⟨b1, o1, none⟩) (some ⟨b2, o2, none⟩) (p :: aa) (q :: bb) js v) := HI
            clear HI
            go_wp2
            go_region_law (refine step_append_lies _ rfl (.tmp 35) (.tmp 50) 26 rfl (w.heap.size + 4) 51 i0 (.agg #[.int .i64 0, .int .u64 0]) 2 16 Try.underlying26 hi hz0 hz1 hz2 rfl (by decide) v js.length (cellsOfWords js) rfl (by first | exact (HO.out.alloc _).drew | exact HO.out.drew.alloc _) ⟨wq.heap.size, 0, none⟩ 1 1 [.int .i64 p.1, .int .u64 (bits .or .u64 p.2 q.2)] rfl rfl (World.news_of_block (cs := #[.int .i64 p.1, .int .u64 (bits .or .u64 p.2 q.2)]) (heap_alloc_new wq _)) (by simp [Value.oneCell']) (by decide) (by unfold maxLen; omega) (by omega) (by simp; omega) _ rfl ?_; intro g1 cap1 w1 hown1 hgrow1 hat1 hlt1; have hbl1 : Below (w.heap.size + 4) wq w1 := Below.grown (by first | exact ((Below.refl _ _).alloc hsz _).drew | exact ((Below.refl _ _).drew.alloc hsz _)) hgrow1 (by simp; omega) (fun k hk => (HO.out.lt k hk).1); have m1 := (hbl1.cell (p := ⟨w.heap.size + 1 + 1 + 1, 1, none⟩) (by simp)).trans l1; have m2 := (hbl1.frozen (p := ⟨w.heap.size + 1 + 1 + 1, 1, none⟩) (by simp)).trans l3)
            all_goals
              have HO1 : Hid (w1.ownsRow (w.heap.size + 4) 51 2 (.slice (some ⟨g1, 0, none⟩) (js.length + 1) cap1) (js.length + 1) (cellsOfWords js ++ [.int .i64 p.1, .int .u64 (bits .or .u64 p.2 q.2)])) := hown1
              have HB1 : Hid (Below (w.heap.size + 4) wq w1) := hbl1
              clear hown1 hbl1 hgrow1 hat1
              try simp only [Exit.inBlock, List.getElem_toArray, List.getElem_cons_succ, List.getElem_cons_zero, Act.put, List.setIfInBounds_toArray, List.set_cons_zero, List.set_cons_succ]
              go_wp2
              go_quiet (fail)
              go_wp2
              go_roundw
              case rel => exact JRel.mk (by omega) (by omega) (by simp; omega) ((jstep (r := (p.1, bits .or .u64 p.2 q.2)) HJ.out HB1.out HO1.out (by have := HNA.out; omega) (by have := HNB.out; omega) (wordsL_reslice HWA.out (by have := HNA.out; omega)) (wordsL_reslice HWB.out (by have := HNB.out; omega)) (mrg_c HNA.out HNB.out HX.out)).drewN _)
              case measure => simp [sliceLen]; omega
          · have hx1 : decide (p.1 < q.1) = false := by simp; omega
            obtain ⟨l0, l1, l2, l3⟩ := two_cells HI.j
            have hsz := HI.size
            have hsz3 : w.heap.size + 1 + 1 + 1 < wr.heap.size := by omega
            have d0 := (HI.below.cell (p := ⟨b1, o1, none⟩) hb1).trans (wordsL_at HWA.out).1
            have d1 := (HI.below.cell (p := ⟨b1, o1 + 1, none⟩) hb1).trans (wordsL_at HWA.out).2.1
            have hb1' : b1 < wr.heap.size := by omega
            have d2 := (HI.below.cell (p := ⟨b2, o2, none⟩) hb2).trans (wordsL_at HWB.out).1
            have d3 := (HI.below.cell (p := ⟨b2, o2 + 1, none⟩) hb2).trans (wordsL_at HWB.out).2.1
            have hb2' : b2 < wr.heap.size := by omega
            have HO : Hid (wr.ownsRow (w.heap.size + 4) 51 2 v js.length (cellsOfWords js)) := HI.own
            have HJ : Hid (JInv (bits .or .u64) w wr s (mrg (bits .or .u64) (n1 + n2) as0 bs0) na nb (some ⟨b1, o1, none⟩) (some ⟨b2, o2, none⟩) (p :: aa) (q :: bb) js v) := HI
            clear HI
            go_wp2
            go_quiet (fail)
            obtain ⟨wp, hwq⟩ : ∃ wp, wp = wr.drewN nq := ⟨_, rfl⟩
            have HI := HJ.out.drewN nq
            rw [← hwq] at HI ⊢
            clear HJ hwq HO hsz hsz3 l0 l1 l2 l3 d0 d1 hb1' d2 d3 hb2'
            obtain ⟨l0, l1, l2, l3⟩ := two_cells HI.j
            have hsz := HI.size
            have hsz3 : w.heap.size + 1 + 1 + 1 < wp.heap.size := by omega
            have d0 := (HI.below.cell (p := ⟨b1, o1, none⟩) hb1).trans (wordsL_at HWA.out).1
            have d1 := (HI.below.cell (p := ⟨b1, o1 + 1, none⟩) hb1).trans (wordsL_at HWA.out).2.1
            have hb1' : b1 < wp.heap.size := by omega
            have d2 := (HI.below.cell (p := ⟨b2, o2, none⟩) hb2).trans (wordsL_at HWB.out).1
            have d3 := (HI.below.cell (p := ⟨b2, o2 + 1, none⟩) hb2).trans (wordsL_at HWB.out).2.1
            have hb2' : b2 < wp.heap.size := by omega
            have HO : Hid (wp.ownsRow (w.heap.size + 4) 51 2 v js.length (cellsOfWords js)) := HI.own
            have HJ : Hid (JInv (bits .or .u64) w wp s (mrg (bits .or .u64) (n1 + n2) as0 bs0) na nb (some ⟨b1, o1, none⟩) (some ⟨b2, o2, none⟩) (p :: aa) (q :: bb) js v) := HI
            clear HI
            go_wp2
            go_quiet (fail)
            obtain ⟨wq, hwq⟩ : ∃ wq, wq = wp.drewN nq := ⟨_, rfl⟩
            have HI := HJ.out.drewN nq
            rw [← hwq] at HI ⊢
            clear HJ hwq HO hsz hsz3 l0 l1 l2 l3 d0 d1 hb1' d2 d3 hb2'
            obtain ⟨l0, l1, l2, l3⟩ := two_cells HI.j
            have hsz := HI.size
            have hsz3 : w.heap.size + 1 + 1 + 1 < wq.heap.size := by omega
            have d0 := (HI.below.cell (p := ⟨b1, o1, none⟩) hb1).trans (wordsL_at HWA.out).1
            have d1 := (HI.below.cell (p := ⟨b1, o1 + 1, none⟩) hb1).trans (wordsL_at HWA.out).2.1
            have hb1' : b1 < wq.heap.size := by omega
            have d2 := (HI.below.cell (p := ⟨b2, o2, none⟩) hb2).trans (wordsL_at HWB.out).1
            have d3 := (HI.below.cell (p := ⟨b2, o2 + 1, none⟩) hb2).trans (wordsL_at HWB.out).2.1
            have hb2' : b2 < wq.heap.size := by omega
            have HO : Hid (wq.ownsRow (w.heap.size + 4) 51 2 v js.length (cellsOfWords js)) := HI.own
            have HJ : Hid (JInv (bits .or .u64) w wq s (mrg (bits .or .u64) (n1 + n2) as0 bs0) na nb (some ⟨b1, o1, none⟩) (some ⟨b2, o2, none⟩) (p :: aa) (q :: bb) js v) := HI
            clear HI
            go_wp2
            go_region_law (refine step_append_lies _ rfl (.tmp 103) (.tmp 107) 26 rfl (w.heap.size + 4) 51 i0 (.agg #[.int .i64 0, .int .u64 0]) 2 16 Try.underlying26 hi hz0 hz1 hz2 rfl (by decide) v js.length (cellsOfWords js) rfl (by first | exact (HO.out.alloc _).drew | exact HO.out.drew.alloc _) ⟨wq.heap.size, 0, none⟩ 1 1 [.int .i64 q.1, .int .u64 (q.2)] rfl rfl (World.news_of_block (cs := #[.int .i64 q.1, .int .u64 (q.2)]) (heap_alloc_new wq _)) (by simp [Value.oneCell']) (by decide) (by unfold maxLen; omega) (by omega) (by simp; omega) _ rfl ?_; intro g1 cap1 w1 hown1 hgrow1 hat1 hlt1; have hbl1 : Below (w.heap.size + 4) wq w1 := Below.grown (by first | exact ((Below.refl _ _).alloc hsz _).drew | exact ((Below.refl _ _).drew.alloc hsz _)) hgrow1 (by simp; omega) (fun k hk => (HO.out.lt k hk).1); have m1 := (hbl1.cell (p := ⟨w.heap.size + 1 + 1 + 1, 1, none⟩) (by simp)).trans l1; have m2 := (hbl1.frozen (p := ⟨w.heap.size + 1 + 1 + 1, 1, none⟩) (by simp)).trans l3)
            all_goals
              have HO1 : Hid (w1.ownsRow (w.heap.size + 4) 51 2 (.slice (some ⟨g1, 0, none⟩) (js.length + 1) cap1) (js.length + 1) (cellsOfWords js ++ [.int .i64 q.1, .int .u64 (q.2)])) := hown1
              have HB1 : Hid (Below (w.heap.size + 4) wq w1) := hbl1
              clear hown1 hbl1 hgrow1 hat1
              try simp only [Exit.inBlock, List.getElem_toArray, List.getElem_cons_succ, List.getElem_cons_zero, Act.put, List.setIfInBounds_toArray, List.set_cons_zero, List.set_cons_succ]
              go_wp2
              go_roundw
              case rel => exact JRel.mk (by omega) (by omega) (by simp; omega) (jstep HJ.out HB1.out HO1.out HJ.out.la (by have := HNB.out; omega) HJ.out.wa (wordsL_reslice HWB.out (by have := HNB.out; omega)) (mrg_b2 HNB.out hx))
              case measure => simp [sliceLen]; omega

end Go.Proofs.Qxb6600284a
