/- nonDecreasing, copyInts, lastReached, the bound's function of the law on DroppedEachEnd: their contracts. -/
import Derived.Test.Qxb6600327aQuorate
namespace Go.Proofs.Qxb6600327a
open Go.RowKit

def NonDec (n : Nat) (z : Nat → Int) : Prop := ∀ j, j + 1 < n → z j ≤ z (j + 1)
theorem NonDec.le {n : Nat} {z : Nat → Int} (h : NonDec n z) : ∀ i j, i ≤ j → j < n → z i ≤ z j := by
  intro i j hij
  induction j with
  | zero => intro _; obtain rfl : i = 0 := by omega
            exact Int.le_refl _
  | succ j ih =>
    intro hj
    by_cases e : i = j + 1
    · subst e; exact Int.le_refl _
    · exact Int.le_trans (ih (by omega) (by omega)) (h j hj)

theorem Reads.drewN {w : World} {a : Option Addr} {n : Nat} {z : Nat → Int} (h : Reads w a n z) (m : Nat) : Reads (w.drewN m) a n z := h
theorem ReadsS.drewN {w : World} {a : Option Addr} {n : Nat} {f : Nat → ByteArray} (h : ReadsS w a n f) (m : Nat) : ReadsS (w.drewN m) a n f := h

set_option maxHeartbeats 400000 in
theorem nondec_some (b o n cap : Nat) (z : Nat → Int) (w : World) (hn : n ≤ 1048576) (hc : ∀ i, i < n → w.cell? ⟨b, o + i, none⟩ = some (.int .i64 (z i))) :
    Calls Try.prog 11 #[.slice (some ⟨b, o, none⟩) n cap] w fun e w' => ∃ r : Bool, e = .returned (.bool r) ∧ (r = true → NonDec n z) ∧ ∃ m, w' = w.drewN m := by
  go_enter Try.func11, Try.ntmps11
  go_wp2
  go_loopw [3] (fun i wr => ∃ k : Nat, 1 ≤ k ∧ i = .int .i64 k ∧ (k ≤ n ∨ k = 1) ∧ (∀ j, j + 1 < k → z j ≤ z (j + 1)) ∧ ∃ m, wr = w.drewN m) (fun i _ => n - (intOf i).toNat)
  case atStart => exact ⟨1, Nat.le_refl _, rfl, .inr rfl, fun j hj => by omega, 0, rfl⟩
  case round =>
    obtain ⟨k, hk1, rfl, hk, hs, m, rfl⟩ := hrel
    have HS : Hid (∀ j, j + 1 < k → z j ≤ z (j + 1)) := hs
    clear hs
    by_cases hlt : k < n
    · have c0 := hc k hlt
      have c1 : w.cell? ⟨b, o + (k - 1), none⟩ = some (.int .i64 (z (k - 1))) := hc (k - 1) (by omega)
      clear hc
      go_wp2
      go_quiet (fail)
      go_wp2
      · go_ret
        exact ⟨false, rfl, fun h => by simp at h, m + nq, by rw [World.drewN_drewN]⟩
      · have hle : z (k - 1) ≤ z k := by assumption
        go_roundw
        case rel => exact ⟨k + 1, by omega, by go_num, .inl (by omega), fun j hj => by
          by_cases hj2 : j + 1 < k
          · exact HS.out j hj2
          · obtain rfl : k = j + 1 := by omega
            simpa using hle, _, rfl⟩
        case measure => simp [intOf]; omega
    · clear hc
      go_wp2
      go_ret
      exact ⟨true, rfl, fun _ j hj => HS.out j (by omega), _, rfl⟩

theorem nondec_none (a : Option Addr) (cap : Nat) (w : World) :
    Calls Try.prog 11 #[.slice a 0 cap] w fun e w' => e = .returned (.bool true) ∧ w' = w := by
  go_enter Try.func11, Try.ntmps11
  go_wp2
  refine wp_loop_rounds 1 ?_
  rw [rounds_succ]
  go_wp2
  go_ret
  exact ⟨rfl, rfl⟩

theorem nondec_any {a : Option Addr} {n : Nat} {z : Nat → Int} (cap : Nat) (w : World) (hn : n ≤ 1048576) (hr : Reads w a n z) :
    Calls Try.prog 11 #[.slice a n cap] w fun e w' => ∃ r : Bool, e = .returned (.bool r) ∧ (r = true → NonDec n z) ∧ ∃ m, w' = w.drewN m := by
  rcases hr with rfl | ⟨b, o, rfl, hc⟩
  · exact (nondec_none a cap w).mono fun e w' ⟨h1, h2⟩ => ⟨true, h1, fun _ j hj => by omega, 0, h2⟩
  · exact nondec_some b o n cap z w hn hc

/-! ### copyInts -/
theorem q23 (w : World) (a : Option Addr) (n c n' c' : Nat) : (binOp .eql 23 (.slice a n c) (.slice none n' c')).run Try.prog w = .ok (.bool a.isNone) w := Lib.run_eql_slice_nil w _ _ a n c n' c' Try.underlying23

set_option maxHeartbeats 400000 in
theorem copyInts_some (b o n cap : Nat) (z : Nat → Int) (w : World) (hn : n ≤ 1048576) (hc : ∀ i, i < n → w.cell? ⟨b, o + i, none⟩ = some (.int .i64 (z i))) :
    Calls Try.prog 13 #[.slice (some ⟨b, o, none⟩) n cap] w fun e w' => ∃ a', e = .returned (.slice a' n n) ∧ Reads w' a' n z ∧ Below w.heap.size w w' := by
  obtain ⟨i0, hi, hz0, hz1, hz2⟩ := info_parts info3
  have q := q23
  go_enter Try.func13, Try.ntmps13
  go_wp2_with (at_make; refine wpList_make_full _ rfl _ _ 23 rfl w.heap.size 3 i0 (.int .i64 0) 1 Try.underlying23 hi hz0 hz1 _ _ _ _ n rfl rfl rfl rfl ?b2 ?b3 (Nat.le_refl _) ?_)
  case b2 => rw [hz2]; omega
  case b3 => unfold maxLen; omega
  intro w0 hown0 hgrow0
  go_wp2
  go_loopw [4] (fun i wr => ∃ (k : Nat) (xs : List Value), k ≤ n ∧ i = .int .i64 k ∧ wr.ownsRow w.heap.size 3 1 (.slice (some ⟨w.heap.size, 0, none⟩) n n) n xs ∧ (∀ j, j < k → xs[j]? = some (.int .i64 (z j))) ∧ Below w.heap.size w wr) (fun i _ => n - (intOf i).toNat)
  case atStart => exact ⟨0, _, Nat.zero_le _, rfl, hown0, fun j hj => by omega, (Below.refl _ _).grown hgrow0 (Nat.le_refl _) (fun k h => by cases h)⟩
  case round =>
    obtain ⟨k, xs, hk, rfl, hown, hs, hnx⟩ := hrel
    have HS : Hid (∀ j, j < k → xs[j]? = some (.int .i64 (z j))) := hs
    clear hs hown0 hgrow0
    by_cases hlt : k < n
    · have hl := hown.1
      have c0 : wr.cell? ⟨b, o + k, none⟩ = some (.int .i64 (z k)) := by
        rw [hnx.cell (p := ⟨b, o + k, none⟩) (World.block_lt_of_cell? w ⟨b, o + k, none⟩ (hc k hlt))]; exact hc k hlt
      obtain ⟨u, c1⟩ := own_cell hown k (by omega)
      have c2 := hown.frozenAt k
      have HO : Hid (wr.ownsRow w.heap.size 3 1 (.slice (some ⟨w.heap.size, 0, none⟩) n n) n xs) := hown
      have HL : Hid (xs.length = n * 1) := hl
      clear hc hown hl
      go_wp2
      go_roundw
      case rel => exact ⟨k + 1, xs.set k (.int .i64 (z k)), by omega, by go_num, (HO.out.stored k _).1, fun j hj => by
          have hl := HL.out
          by_cases hj2 : j = k
          · subst hj2; rw [List.getElem?_set_self (by omega)]
          · rw [List.getElem?_set_ne (by omega)]; exact HS.out j (by omega), hnx.setCell (Nat.le_refl _) _⟩
      case measure => simp [intOf]; omega
    · go_wp2
      go_ret
      exact ⟨_, rfl, .inr ⟨_, 0, rfl, fun i hi => by rw [Nat.zero_add, hown.cellAt i (by omega)]; exact HS.out i (by omega)⟩, hnx⟩

theorem copyInts_none (a : Option Addr) (cap : Nat) (w : World) :
    Calls Try.prog 13 #[.slice a 0 cap] w fun e w' => ∃ a', e = .returned (.slice a' 0 0) ∧ Below w.heap.size w w' := by
  obtain ⟨i0, hi, hz0, hz1, hz2⟩ := info_parts info3
  have q := q23
  cases a with
  | none =>
    go_enter Try.func13, Try.ntmps13
    go_wp2
    go_ret
    exact ⟨_, rfl, Below.refl _ _⟩
  | some x =>
    go_enter Try.func13, Try.ntmps13
    go_wp2_with (at_make; refine wpList_make_full _ rfl _ _ 23 rfl w.heap.size 3 i0 (.int .i64 0) 1 Try.underlying23 hi hz0 hz1 _ _ _ _ 0 rfl rfl rfl rfl ?b2 ?b3 (Nat.le_refl _) ?_)
    case b2 => rw [hz2]; omega
    case b3 => unfold maxLen; omega
    intro w0 hown0 hgrow0
    go_wp2
    refine wp_loop_rounds 1 ?_
    rw [rounds_succ]
    go_wp2
    go_ret
    exact ⟨_, rfl, (Below.refl _ _).grown hgrow0 (Nat.le_refl _) (fun k h => by cases h)⟩

theorem copyInts_any {a : Option Addr} {n : Nat} {z : Nat → Int} (cap : Nat) (w : World) (hn : n ≤ 1048576) (hr : Reads w a n z) :
    Calls Try.prog 13 #[.slice a n cap] w fun e w' => ∃ a', e = .returned (.slice a' n n) ∧ Reads w' a' n z ∧ Below w.heap.size w w' := by
  rcases hr with rfl | ⟨b, o, rfl, hc⟩
  · exact (copyInts_none a cap w).mono fun e w' ⟨a', h1, h2⟩ => ⟨a', h1, .inl rfl, h2⟩
  · exact copyInts_some b o n cap z w hn hc

/-! ### lastReached -/
/-- The number of the last step that c reaches; 0 where none is. -/
def LastR (n : Nat) (zf ze : Nat → Int) (c v : Int) : Prop := (v = 0 ∧ ∀ i, i < n → c < zf i) ∨ ∃ i, i < n ∧ zf i ≤ c ∧ v = ze i ∧ ∀ j, i < j → j < n → c < zf j

theorem LastR.uniq {n : Nat} {zf ze : Nat → Int} {c v v' : Int} (h : LastR n zf ze c v) (h' : LastR n zf ze c v') : v = v' := by
  rcases h with ⟨rfl, h⟩ | ⟨i, h1, h2, rfl, h4⟩
  · rcases h' with ⟨rfl, _⟩ | ⟨i', k1, k2, rfl, k4⟩
    · rfl
    · have := h i' k1; omega
  · rcases h' with ⟨rfl, k⟩ | ⟨i', k1, k2, rfl, k4⟩
    · have := k i h1; omega
    · rcases Nat.lt_trichotomy i i' with e | e | e
      · have := h4 i' e k1; omega
      · rw [e]
      · have := k4 i e h1; omega

set_option maxHeartbeats 400000 in
theorem last_some (b1 o1 c1 b2 o2 c2 n : Nat) (zf ze : Nat → Int) (c : Int) (w : World) (hn : n ≤ 1048576) (hc1 : ∀ i, i < n → w.cell? ⟨b1, o1 + i, none⟩ = some (.int .i64 (zf i))) (hc2 : ∀ i, i < n → w.cell? ⟨b2, o2 + i, none⟩ = some (.int .i64 (ze i))) :
    Calls Try.prog 17 #[.slice (some ⟨b1, o1, none⟩) n c1, .slice (some ⟨b2, o2, none⟩) n c2, .int .i64 c] w fun e w' => ∃ v, LastR n zf ze c v ∧ e = .returned (.int .i64 v) ∧ w' = w := by
  go_enter Try.func17, Try.ntmps17
  go_wp2
  go_loop [7] (fun i => ∃ k : Nat, k ≤ n ∧ i = .int .i64 k ∧ Hid (∀ j, k ≤ j → j < n → c < zf j)) (fun i => (intOf i).toNat)
  case atStart => exact ⟨n, Nat.le_refl _, rfl, fun j h1 h2 => by omega⟩
  case round =>
    obtain ⟨k, hk, rfl, HK⟩ := hrel
    by_cases h0 : 0 < k
    · have d1 := hc1 (k - 1) (by omega)
      have d2 := hc2 (k - 1) (by omega)
      have hk0 : (0 : Int) < (k : Int) := by omega
      clear hc1 hc2
      by_cases hx : zf (k - 1) ≤ c
      · go_wp2
        go_ret
        exact ⟨_, .inr ⟨k - 1, by omega, hx, rfl, fun j h1 h2 => HK.out j (by omega) h2⟩, rfl, rfl⟩
      · have HX : Hid (c < zf (k - 1)) := (by omega : c < zf (k - 1))
        go_wp2
        go_round
        case rel => exact ⟨k - 1, by omega, by go_num, fun j h1 h2 => by
          by_cases e : j = k - 1
          · subst e; exact HX.out
          · exact HK.out j (by omega) h2⟩
        case measure => simp [intOf]; omega
    · clear hc1 hc2
      go_wp2
      go_ret
      exact ⟨0, .inl ⟨rfl, fun i hi => HK.out i (by omega) hi⟩, rfl, rfl⟩

theorem last_none (a1 a2 : Option Addr) (c1 c2 m : Nat) (c : Int) (w : World) :
    Calls Try.prog 17 #[.slice a1 0 c1, .slice a2 m c2, .int .i64 c] w fun e w' => e = .returned (.int .i64 0) ∧ w' = w := by
  go_enter Try.func17, Try.ntmps17
  go_wp2
  refine wp_loop_rounds 1 ?_
  rw [rounds_succ]
  go_wp2
  go_ret
  exact ⟨rfl, rfl⟩

theorem last_any {a1 a2 : Option Addr} {n : Nat} {zf ze : Nat → Int} (c1 c2 : Nat) (c : Int) (w : World) (hn : n ≤ 1048576) (h1 : Reads w a1 n zf) (h2 : Reads w a2 n ze) :
    Calls Try.prog 17 #[.slice a1 n c1, .slice a2 n c2, .int .i64 c] w fun e w' => ∃ v, LastR n zf ze c v ∧ e = .returned (.int .i64 v) ∧ w' = w := by
  by_cases h0 : n = 0
  · subst h0
    exact (last_none a1 a2 c1 c2 0 c w).mono fun e w' ⟨k1, k2⟩ => ⟨0, .inl ⟨rfl, fun i hi => by omega⟩, k1, k2⟩
  · rcases h1 with h1 | ⟨b1, o1, rfl, hc1⟩
    · exact absurd h1 h0
    rcases h2 with h2 | ⟨b2, o2, rfl, hc2⟩
    · exact absurd h2 h0
    exact last_some b1 o1 c1 b2 o2 c2 n zf ze c w hn hc1 hc2

end Go.Proofs.Qxb6600327a
