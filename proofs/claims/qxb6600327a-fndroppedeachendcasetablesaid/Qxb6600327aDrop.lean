/- DroppedEachEnd by steps: its contract; the bound's function of the law. -/
import Derived.Test.Qxb6600327aSteps
import Derived.WalkSpells
namespace Go.Proofs.Qxb6600327a
open Go.RowKit

theorem q30 (w : World) (a : Option Addr) (n c n' c' : Nat) : (binOp .neq 30 (.slice a n c) (.slice none n' c')).run Try.prog w = .ok (.bool a.isSome) w := by
  have h := run_neq_slice_nil_any (P := Try.prog) w 30 61 a n c n' c' Try.underlying30
  simpa using h

set_option maxHeartbeats 1000000 in
theorem drop_steps (R g n : Nat) (c : Int) (zf ze : Nat → Int) (w : World) (hn : n ≤ 16384) (hnd : NonDec n zf) (r8 : w.cell? ⟨R, 8, none⟩ = some (.pointer none)) (r9 : w.cell? ⟨R, 9, none⟩ = some (.pointer none)) (r10 : w.cell? ⟨R, 10, none⟩ = some (.slice (some ⟨g, 0, none⟩) n n)) (hst : StepsAt w g n zf ze) :
    Calls Try.prog 16 #[.pointer (some ⟨R, 0, none⟩), .int .i64 c] w fun e w' => ∃ v, LastR n zf ze c v ∧ e = .returned (.int .i64 v) ∧ Below w.heap.size w w' := by
  have hR : R < w.heap.size := World.block_lt_of_cell? w ⟨R, 8, none⟩ r8
  have q := q30
  have HND : Hid (NonDec n zf) := hnd
  have HST : Hid (StepsAt w g n zf ze) := hst
  clear hnd hst
  go_enter Try.func16, Try.ntmps16
  go_wp2
  go_loopw [4, 42] (fun sv i wr => ∃ (k : Nat) (v : Int), k ≤ n ∧ i = .int .i64 k ∧ sv = .int .i64 v ∧ Hid ((k = 0 ∧ v = 0) ∨ (0 < k ∧ v = ze (k - 1))) ∧ Hid (∀ j, j < k → zf j ≤ c) ∧ Below w.heap.size w wr) (fun _ i _ => n - (intOf i).toNat)
  case atStart => exact ⟨0, 0, Nat.zero_le _, rfl, rfl, .inl ⟨rfl, rfl⟩, fun j hj => by omega, (Below.refl _ _).alloc (Nat.le_refl _) _⟩
  case round =>
    clear r8 r9 r10
    obtain ⟨k, v, hk, rfl, rfl, HV, HK, hbel⟩ := hrel
    have hout : (k = n ∨ c < zf k) → LastR n zf ze c v := fun he => by
      have hup : ∀ j, k ≤ j → j < n → c < zf j := fun j h1 h2 => by
        rcases he with he | he
        · omega
        · exact Int.lt_of_lt_of_le he (HND.out.le k j h1 h2)
      rcases HV.out with ⟨h1, h2⟩ | ⟨h1, h2⟩
      · exact .inl ⟨h2, fun i hi => hup i (by omega) hi⟩
      · exact .inr ⟨k - 1, by omega, HK.out (k - 1) (by omega), h2, fun j h3 h4 => hup j (by omega) h4⟩
    have HOUT := hide hout
    have HB : Hid (Below w.heap.size w wr) := hbel
    clear hout
    by_cases hlt : k < n
    · obtain ⟨p, q', e1, e2, e3, e4⟩ := HST.out.below hbel k hlt
      have hg : g < wr.heap.size := World.block_lt_of_cell? wr ⟨g, k * 2, none⟩ e1
      have hp : p < wr.heap.size := World.block_lt_of_cell? wr ⟨p, 0, none⟩ e3
      have hq : q' < wr.heap.size := World.block_lt_of_cell? wr ⟨q', 0, none⟩ e4
      clear hbel
      by_cases hx : c < zf k
      · go_wp2
        go_ret
        exact ⟨v, HOUT.out (.inr hx), rfl, HB.out.alloc HB.out.size _⟩
      · have hx' : zf k ≤ c := by omega
        clear hx
        go_wp2
        go_roundw
        case rel => exact ⟨k + 1, ze k, by omega, by go_num, rfl, .inr ⟨by omega, rfl⟩, fun j hj => by
            by_cases e : j < k
            · exact HK.out j e
            · obtain rfl : j = k := by omega
              exact hx', HB.out.alloc HB.out.size _⟩
        case measure => simp [intOf]; omega
    · clear hbel
      go_wp2
      go_ret
      exact ⟨v, HOUT.out (.inl (by omega)), rfl, HB.out⟩

/-! ### zzBytes_FnDroppedEachEndCaseTable: it answers -/
set_option maxRecDepth 100000 in
set_option maxHeartbeats 1000000 in
theorem bytes9_some (h0 h2 h5 : Bool) (x1 x3 x8 : Int) (b o n cap : Nat) (a6 a7 : Option Addr) (n6 c6 n7 c7 : Nat) (f : Nat → ByteArray) (w : World) (hn : n ≤ maxLen) (hn6 : n6 ≤ maxLen) (hn7 : n7 ≤ maxLen) (hf : ∀ i, i < n → (f i).size ≤ maxLen) (hc : ∀ i, i < n → w.cell? ⟨b, o + i, none⟩ = some (.string (f i))) :
    Calls Try.prog 9 #[.bool h0, .int .i64 x1, .bool h2, .int .i64 x3, .slice (some ⟨b, o, none⟩) n cap, .bool h5, .slice a6 n6 c6, .slice a7 n7 c7, .int .i64 x8] w (SomeBool w) := by
  unfold maxLen at hn hn6 hn7
  by_cases hbig : 1048576 < n
  · go_enter Try.func9, Try.ntmps9
    go_wp2
    go_ret
    exact SomeBool.mk false
  · go_enter Try.func9, Try.ntmps9
    go_wp2
    go_loop [19, 20] (fun s i => ∃ (k : Nat) (t : Int), k ≤ n ∧ i = .int .i64 k ∧ s = .int .i64 t ∧ 0 ≤ t ∧ t ≤ 1048576) (fun _ i => n - (intOf i).toNat)
    case atStart => exact ⟨0, (n : Int), Nat.zero_le _, rfl, by go_num, by omega, by omega⟩
    case round =>
      obtain ⟨k, t, hk, rfl, rfl, ht0, ht1⟩ := hrel
      by_cases hlt : k < n
      · have ck := hc k hlt
        have hs := hf k hlt
        unfold maxLen at hs
        obtain ⟨g, hg⟩ : ∃ g, g = f k := ⟨_, rfl⟩
        rw [← hg] at ck hs
        clear hc hf hg
        by_cases hb2 : 1048576 < g.size
        · go_wp2
          go_ret
          exact SomeBool.mk false
        · by_cases hsum : 1048576 < t + (g.size : Int)
          · go_wp2
            go_ret
            exact SomeBool.mk false
          · go_wp2
            go_round
            case rel => exact ⟨k + 1, t + (g.size : Int), by omega, by go_num, rfl, by omega, by omega⟩
            case measure => simp [intOf]; omega
      · clear hc hf
        go_wp2
        all_goals (go_ret; exact SomeBool.mk _)

set_option maxRecDepth 100000 in
set_option maxHeartbeats 1000000 in
theorem bytes9_none (h0 h2 h5 : Bool) (x1 x3 x8 : Int) (a a6 a7 : Option Addr) (cap n6 c6 n7 c7 : Nat) (w : World) (hn6 : n6 ≤ maxLen) (hn7 : n7 ≤ maxLen) :
    Calls Try.prog 9 #[.bool h0, .int .i64 x1, .bool h2, .int .i64 x3, .slice a 0 cap, .bool h5, .slice a6 n6 c6, .slice a7 n7 c7, .int .i64 x8] w (SomeBool w) := by
  unfold maxLen at hn6 hn7
  go_enter Try.func9, Try.ntmps9
  go_wp2
  refine wp_loop_rounds 1 ?_
  rw [rounds_succ]
  go_wp2
  all_goals (go_ret; exact SomeBool.mk _)

theorem bytes9_any (h0 h2 h5 : Bool) (x1 x3 x8 : Int) {a : Option Addr} {n : Nat} {f : Nat → ByteArray} (cap : Nat) (a6 a7 : Option Addr) (n6 c6 n7 c7 : Nat) (w : World) (hn : n ≤ maxLen) (hn6 : n6 ≤ maxLen) (hn7 : n7 ≤ maxLen) (hf : ∀ i, i < n → (f i).size ≤ maxLen) (hr : ReadsS w a n f) :
    Calls Try.prog 9 #[.bool h0, .int .i64 x1, .bool h2, .int .i64 x3, .slice a n cap, .bool h5, .slice a6 n6 c6, .slice a7 n7 c7, .int .i64 x8] w (SomeBool w) := by
  rcases hr with rfl | ⟨b, o, rfl, hc⟩
  · exact bytes9_none h0 h2 h5 x1 x3 x8 a a6 a7 cap n6 c6 n7 c7 w hn6 hn7
  · exact bytes9_some h0 h2 h5 x1 x3 x8 b o n cap a6 a7 n6 c6 n7 c7 f w hn hn6 hn7 hf hc

end Go.Proofs.Qxb6600327a
