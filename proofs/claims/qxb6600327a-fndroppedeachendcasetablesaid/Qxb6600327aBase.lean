/- Slices of strings and of ints in memory, and the small functions over them: their contracts. -/
import Derived.Test.Qxb6600327aRows
import Derived.WalkKit
import Derived.ProofKit
import Derived.WalkSmall
import Derived.BigQuiet
import Derived.Lib.SliceRun
import Derived.OpenShut
namespace Go.Proofs.Qxb6600327a
open Go.RowKit

/-- A slice of n strings f 0 .. f (n-1), each within Go's bound. -/
def ReadsS (w : World) (a : Option Addr) (n : Nat) (f : Nat → ByteArray) : Prop :=
  n = 0 ∨ ∃ b o, a = some ⟨b, o, none⟩ ∧ ∀ i, i < n → w.cell? ⟨b, o + i, none⟩ = some (.string (f i))

theorem ReadsS.below {w w' : World} {a : Option Addr} {n : Nat} {f : Nat → ByteArray} (h : ReadsS w a n f) (hb : Below w.heap.size w w') : ReadsS w' a n f := by
  rcases h with h | ⟨b, o, ha, hc⟩
  · exact .inl h
  · exact .inr ⟨b, o, ha, fun i hi => by
      have := hc i hi
      rw [hb.cell (p := ⟨b, o + i, none⟩) (World.block_lt_of_cell? w ⟨b, o + i, none⟩ this)]
      exact this⟩

/-- A slice of n ints. -/
def Reads (w : World) (a : Option Addr) (n : Nat) (z : Nat → Int) : Prop :=
  n = 0 ∨ ∃ b o, a = some ⟨b, o, none⟩ ∧ ∀ i, i < n → w.cell? ⟨b, o + i, none⟩ = some (.int .i64 (z i))

theorem Reads.below {w w' : World} {a : Option Addr} {n : Nat} {z : Nat → Int} (h : Reads w a n z) (hb : Below w.heap.size w w') : Reads w' a n z := by
  rcases h with h | ⟨b, o, ha, hc⟩
  · exact .inl h
  · exact .inr ⟨b, o, ha, fun i hi => by
      have := hc i hi
      rw [hb.cell (p := ⟨b, o + i, none⟩) (World.block_lt_of_cell? w ⟨b, o + i, none⟩ this)]
      exact this⟩

theorem below_N (w : World) (n : Nat) : Below w.heap.size w (w.drewN n) := below_drewN (Below.refl _ _) n
theorem hide {p : Prop} (h : p) : Hid p := h

theorem own : ownKnob Try.prog.godebug = none := by kernel_rfl
theorem laidOut : laidOutB Try.prog = true := by kernel_rfl
theorem info3 : (Try.prog.info? 3).map (fun i => (i.zero, i.size, i.bytes)) = some (some (.int .i64 0), 1, 8) := by kernel_rfl
theorem info9 : (Try.prog.info? 9).map (fun i => (i.zero, i.size, i.bytes)) = some (some (.string ByteArray.empty), 1, 16) := by kernel_rfl
theorem q22 (w : World) (a : Option Addr) (n c n' c' : Nat) : (binOp .eql 22 (.slice a n c) (.slice none n' c')).run Try.prog w = .ok (.bool a.isNone) w := Lib.run_eql_slice_nil w _ _ a n c n' c' Try.underlying22

theorem own_cell {w : World} {base e size g n cap : Nat} {xs : List Value} (h : w.ownsRow base e size (.slice (some ⟨g, 0, none⟩) n cap) n xs) (j : Nat) (hj : j < n * size) : ∃ u, w.cell? ⟨g, j, none⟩ = some u := by
  rw [h.cellAt j hj]
  exact ⟨xs[j]'(by rw [h.1]; exact hj), List.getElem?_eq_getElem _⟩

/-! ### intPtr -/
theorem intPtr_any (x : Int) (w : World) : Calls Try.prog 14 #[.int .i64 x] w fun e w' => e = .returned (.pointer (some ⟨w.heap.size, 0, none⟩)) ∧ w' = w.alloc (.cells #[.int .i64 x] 3) := by
  go_enter Try.func14, Try.ntmps14
  go_wp2
  go_ret
  exact ⟨rfl, rfl⟩

/-! ### stringsBytes -/
set_option maxHeartbeats 400000 in
theorem strBytes_some (b o n cap : Nat) (f : Nat → ByteArray) (w : World) (hn : n ≤ 16384) (hf : ∀ i, i < n → (f i).size ≤ maxLen) (hc : ∀ i, i < n → w.cell? ⟨b, o + i, none⟩ = some (.string (f i))) :
    Calls Try.prog 10 #[.slice (some ⟨b, o, none⟩) n cap] w fun e w' => ∃ v : Int, 0 ≤ v ∧ v ≤ 3000000 ∧ e = .returned (.int .i64 v) ∧ w' = w := by
  go_enter Try.func10, Try.ntmps10
  go_wp2
  go_loop [3, 4] (fun s i => ∃ (k : Nat) (t : Int), k ≤ n ∧ i = .int .i64 k ∧ s = .int .i64 t ∧ 0 ≤ t ∧ t ≤ 1048576) (fun _ i => n - (intOf i).toNat)
  case atStart => exact ⟨0, 16 * (n : Int), Nat.zero_le _, rfl, rfl, by omega, by omega⟩
  case round =>
    obtain ⟨k, t, hk, rfl, rfl, ht0, ht1⟩ := hrel
    by_cases hlt : k < n
    · have ck := hc k hlt
      have hs := hf k hlt
      unfold maxLen at hs
      obtain ⟨g, hg⟩ : ∃ g, g = f k := ⟨_, rfl⟩
      rw [← hg] at ck hs
      clear hc hf hg
      by_cases hbig : 1048576 < g.size
      · go_wp2
        go_ret
        exact ⟨1048577, by omega, by omega, rfl, rfl⟩
      · by_cases hsum : 1048576 < t + (g.size : Int)
        · go_wp2
          go_ret
          exact ⟨t + (g.size : Int), by omega, by omega, rfl, rfl⟩
        · go_wp2
          go_round
          case rel => exact ⟨k + 1, t + (g.size : Int), by omega, by go_num, rfl, by omega, by omega⟩
          case measure => simp [intOf]; omega
    · clear hc hf
      go_wp2
      go_ret
      exact ⟨t, by omega, by omega, rfl, rfl⟩

theorem strBytes_none (a : Option Addr) (cap : Nat) (w : World) : Calls Try.prog 10 #[.slice a 0 cap] w fun e w' => e = .returned (.int .i64 0) ∧ w' = w := by
  go_enter Try.func10, Try.ntmps10
  go_wp2
  refine wp_loop_rounds 1 ?_
  rw [rounds_succ]
  go_wp2
  go_ret
  exact ⟨rfl, rfl⟩

theorem strBytes_any {a : Option Addr} {n : Nat} {f : Nat → ByteArray} (cap : Nat) (w : World) (hn : n ≤ 16384) (hf : ∀ i, i < n → (f i).size ≤ maxLen) (hr : ReadsS w a n f) :
    Calls Try.prog 10 #[.slice a n cap] w fun e w' => ∃ v : Int, 0 ≤ v ∧ v ≤ 3000000 ∧ e = .returned (.int .i64 v) ∧ w' = w := by
  rcases hr with rfl | ⟨b, o, rfl, hc⟩
  · exact (strBytes_none a cap w).mono fun e w' ⟨h1, h2⟩ => ⟨0, by omega, by omega, h1, h2⟩
  · exact strBytes_some b o n cap f w hn hf hc

/-! ### copyStrings -/
set_option maxHeartbeats 400000 in
theorem copyStr_some (b o n cap : Nat) (f : Nat → ByteArray) (w : World) (hn : n ≤ 1048576) (hc : ∀ i, i < n → w.cell? ⟨b, o + i, none⟩ = some (.string (f i))) :
    Calls Try.prog 12 #[.slice (some ⟨b, o, none⟩) n cap] w fun e w' => ∃ a', e = .returned (.slice a' n n) ∧ Below w.heap.size w w' := by
  obtain ⟨i0, hi, hz0, hz1, hz2⟩ := info_parts info9
  have q := q22
  go_enter Try.func12, Try.ntmps12
  go_wp2_with (at_make; refine wpList_make_full _ rfl _ _ 22 rfl w.heap.size 9 i0 (.string ByteArray.empty) 1 Try.underlying22 hi hz0 hz1 _ _ _ _ n rfl rfl rfl rfl ?b2 ?b3 (Nat.le_refl _) ?_)
  case b2 => rw [hz2]; omega
  case b3 => unfold maxLen; omega
  intro w0 hown0 hgrow0
  go_wp2
  go_loopw [4] (fun i wr => ∃ (k : Nat) (xs : List Value), k ≤ n ∧ i = .int .i64 k ∧ wr.ownsRow w.heap.size 9 1 (.slice (some ⟨w.heap.size, 0, none⟩) n n) n xs ∧ Below w.heap.size w wr) (fun i _ => n - (intOf i).toNat)
  case atStart => exact ⟨0, _, Nat.zero_le _, rfl, hown0, (Below.refl _ _).grown hgrow0 (Nat.le_refl _) (fun k h => by cases h)⟩
  case round =>
    obtain ⟨k, xs, hk, rfl, hown, hnx⟩ := hrel
    clear hown0 hgrow0
    by_cases hlt : k < n
    · have c0 : wr.cell? ⟨b, o + k, none⟩ = some (.string (f k)) := by
        rw [hnx.cell (p := ⟨b, o + k, none⟩) (World.block_lt_of_cell? w ⟨b, o + k, none⟩ (hc k hlt))]; exact hc k hlt
      obtain ⟨u, c1⟩ := own_cell hown k (by omega)
      have c2 := hown.frozenAt k
      have HO : Hid (wr.ownsRow w.heap.size 9 1 (.slice (some ⟨w.heap.size, 0, none⟩) n n) n xs) := hown
      clear hc hown
      go_wp2
      go_roundw
      case rel => exact ⟨k + 1, xs.set k (.string (f k)), by omega, by go_num, (HO.out.stored k _).1, hnx.setCell (Nat.le_refl _) _⟩
      case measure => simp [intOf]; omega
    · clear hc
      go_wp2
      go_ret
      exact ⟨_, rfl, hnx⟩

theorem copyStr_none (a : Option Addr) (cap : Nat) (w : World) : Calls Try.prog 12 #[.slice a 0 cap] w fun e w' => ∃ a', e = .returned (.slice a' 0 0) ∧ Below w.heap.size w w' := by
  obtain ⟨i0, hi, hz0, hz1, hz2⟩ := info_parts info9
  have q := q22
  cases a with
  | none =>
    go_enter Try.func12, Try.ntmps12
    go_wp2
    go_ret
    exact ⟨_, rfl, Below.refl _ _⟩
  | some x =>
    go_enter Try.func12, Try.ntmps12
    go_wp2_with (at_make; refine wpList_make_full _ rfl _ _ 22 rfl w.heap.size 9 i0 (.string ByteArray.empty) 1 Try.underlying22 hi hz0 hz1 _ _ _ _ 0 rfl rfl rfl rfl ?b2 ?b3 (Nat.le_refl _) ?_)
    case b2 => rw [hz2]; omega
    case b3 => unfold maxLen; omega
    intro w0 hown0 hgrow0
    go_wp2
    refine wp_loop_rounds 1 ?_
    rw [rounds_succ]
    go_wp2
    go_ret
    exact ⟨_, rfl, (Below.refl _ _).grown hgrow0 (Nat.le_refl _) (fun k h => by cases h)⟩

theorem copyStr_any {a : Option Addr} {n : Nat} {f : Nat → ByteArray} (cap : Nat) (w : World) (hn : n ≤ 1048576) (hr : ReadsS w a n f) :
    Calls Try.prog 12 #[.slice a n cap] w fun e w' => ∃ a', e = .returned (.slice a' n n) ∧ Below w.heap.size w w' := by
  rcases hr with rfl | ⟨b, o, rfl, hc⟩
  · exact copyStr_none a cap w
  · exact copyStr_some b o n cap f w hn hc

/-! ### What the row tells of a slice that came in -/
def IsStrs (w : World) (a : Option Addr) (len cap : Nat) (ss : List ByteArray) : Prop :=
  (a = none ∧ len = 0 ∧ cap = 0 ∧ ss = []) ∨
  ∃ x, a = some x ∧ len ≤ cap ∧ cap ≤ maxLen ∧ ss.length = cap ∧ (∀ i, i < ss.length → w.cell? (x.add i) = some (.string (ss.getD i ByteArray.empty))) ∧ ∀ s ∈ ss, s.size ≤ maxLen
def IsInts (w : World) (a : Option Addr) (len cap : Nat) (zs : List Int) : Prop :=
  (a = none ∧ len = 0 ∧ cap = 0 ∧ zs = []) ∨
  ∃ x, a = some x ∧ len ≤ cap ∧ cap ≤ maxLen ∧ zs.length = cap ∧ (∀ i, i < zs.length → w.cell? (x.add i) = some (.int .i64 (zs.getD i 0))) ∧ ∀ n ∈ zs, (Lit.int .i64 n).wf = true

theorem isStrs_reads {w : World} {a : Option Addr} {len cap : Nat} {ss : List ByteArray} (h : IsStrs w a len cap ss) :
    len ≤ maxLen ∧ (∀ i, i < len → (ss.getD i ByteArray.empty).size ≤ maxLen) ∧ ReadsS w a len (fun i => ss.getD i ByteArray.empty) := by
  rcases h with ⟨_, rfl, _, _⟩ | ⟨x, rfl, h1, h2, h3, h4, h5⟩
  · exact ⟨Nat.zero_le _, fun i hi => by omega, .inl rfl⟩
  · refine ⟨Nat.le_trans h1 h2, fun i hi => ?_, ?_⟩
    · have hlt : i < ss.length := by omega
      have e : ss.getD i ByteArray.empty = ss[i] := by simp [List.getD, hlt]
      rw [e]
      exact h5 _ (List.getElem_mem hlt)
    · by_cases h0 : len = 0
      · exact .inl h0
      · obtain ⟨b, off, spot⟩ := x
        have hs : spot = none := by simpa [Addr.add] using World.cell?_spot (h4 0 (by omega))
        subst hs
        exact .inr ⟨b, off, rfl, fun i hi => by
          have := h4 i (by omega)
          rwa [WideShapes.add_plain] at this⟩

theorem isInts_reads {w : World} {a : Option Addr} {len cap : Nat} {zs : List Int} (h : IsInts w a len cap zs) :
    len ≤ maxLen ∧ Reads w a len (fun i => zs.getD i 0) := by
  rcases h with ⟨_, rfl, _, _⟩ | ⟨x, rfl, h1, h2, h3, h4, _⟩
  · exact ⟨Nat.zero_le _, .inl rfl⟩
  · refine ⟨Nat.le_trans h1 h2, ?_⟩
    by_cases h0 : len = 0
    · exact .inl h0
    · obtain ⟨b, o, rfl, hc⟩ := ints_at h4 (by omega)
      exact .inr ⟨b, o, rfl, fun i hi => hc i (by omega)⟩

end Go.Proofs.Qxb6600327a
