/- The seat's base: how slices of numbers and of category words lie in memory, said by functions of the place. -/
import Derived.Test.Qxb6600284aRows
import Derived.WalkKit
import Derived.ProofKit
import Derived.BigQuiet
import Derived.WalkSmall
import Derived.Deep.QuietTactic
import Derived.Deep.LoopGhost
import Derived.Lib.SliceRun
import Derived.OpenShut
namespace Go.Proofs.Qxb6600284a
open Go.RowKit

/-- A slice at the address 'a' reads the n numbers z 0 .. z (n-1), of the kind k. -/
def Reads (k : IntKind) (w : World) (a : Option Addr) (n : Nat) (z : Nat → Int) : Prop :=
  n = 0 ∨ ∃ b o, a = some ⟨b, o, none⟩ ∧ ∀ i, i < n → w.cell? ⟨b, o + i, none⟩ = some (.int k (z i))

theorem Reads.below {k : IntKind} {w w' : World} {a : Option Addr} {n : Nat} {z : Nat → Int} (h : Reads k w a n z) (hb : Below w.heap.size w w') : Reads k w' a n z := by
  rcases h with h | ⟨b, o, ha, hc⟩
  · exact .inl h
  · exact .inr ⟨b, o, ha, fun i hi => by
      have := hc i hi
      rw [hb.cell (p := ⟨b, o + i, none⟩) (World.block_lt_of_cell? w ⟨b, o + i, none⟩ this)]
      exact this⟩

theorem Reads.drewN {k : IntKind} {w : World} {a : Option Addr} {n : Nat} {z : Nat → Int} (h : Reads k w a n z) (m : Nat) : Reads k (w.drewN m) a n z := h

/-- A slice of n category words: number z i, bits y i. -/
def Words (w : World) (a : Option Addr) (n : Nat) (z y : Nat → Int) : Prop :=
  n = 0 ∨ ∃ b o, a = some ⟨b, o, none⟩ ∧ ∀ i, i < n → w.cell? ⟨b, o + i * 2, none⟩ = some (.int .i64 (z i)) ∧ w.cell? ⟨b, o + i * 2 + 1, none⟩ = some (.int .u64 (y i))

theorem Words.below {w w' : World} {a : Option Addr} {n : Nat} {z y : Nat → Int} (h : Words w a n z y) (hb : Below w.heap.size w w') : Words w' a n z y := by
  rcases h with h | ⟨b, o, ha, hc⟩
  · exact .inl h
  · exact .inr ⟨b, o, ha, fun i hi => by
      obtain ⟨h1, h2⟩ := hc i hi
      exact ⟨by rw [hb.cell (p := ⟨b, o + i * 2, none⟩) (World.block_lt_of_cell? w ⟨b, o + i * 2, none⟩ h1)]; exact h1,
        by rw [hb.cell (p := ⟨b, o + i * 2 + 1, none⟩) (World.block_lt_of_cell? w ⟨b, o + i * 2 + 1, none⟩ h2)]; exact h2⟩⟩

theorem Words.drewN {w : World} {a : Option Addr} {n : Nat} {z y : Nat → Int} (h : Words w a n z y) (m : Nat) : Words (w.drewN m) a n z y := h

theorem below_N (w : World) (n : Nat) : Below w.heap.size w (w.drewN n) := below_drewN (Below.refl _ _) n

theorem bcell {W w1 : World} (hb : Below W.heap.size W w1) : (∀ b o, b < W.heap.size → w1.cell? ⟨b, o, none⟩ = W.cell? ⟨b, o, none⟩) ∧ (∀ b o, b < W.heap.size → w1.frozen? ⟨b, o, none⟩ = W.frozen? ⟨b, o, none⟩) :=
  ⟨fun b o h => hb.cell (p := ⟨b, o, none⟩) h, fun b o h => hb.frozen (p := ⟨b, o, none⟩) h⟩

theorem ret_int {k : IntKind} {a b : Int} (h : a = b) : Ending.returned (.int k a) = .returned (.int k b) := by rw [h]

theorem own : ownKnob Try.prog.godebug = none := by kernel_rfl
theorem laidOut : laidOutB Try.prog = true := by kernel_rfl
theorem info3 : (Try.prog.info? 3).map (fun i => (i.zero, i.size, i.bytes)) = some (some (.int .i64 0), 1, 8) := by kernel_rfl
theorem info41 : (Try.prog.info? 41).map (fun i => (i.zero, i.size, i.bytes)) = some (some (.int .u64 0), 1, 8) := by kernel_rfl
theorem info51 : (Try.prog.info? 51).map (fun i => (i.zero, i.size, i.bytes)) = some (some (.agg #[.int .i64 0, .int .u64 0]), 2, 16) := by kernel_rfl

/-- 's == nil' at []int, at []uint64. -/
theorem q22 (w : World) (a : Option Addr) (n c n' c' : Nat) : (binOp .eql 22 (.slice a n c) (.slice none n' c')).run Try.prog w = .ok (.bool a.isNone) w := Lib.run_eql_slice_nil w _ _ a n c n' c' Try.underlying22
theorem q31 (w : World) (a : Option Addr) (n c n' c' : Nat) : (binOp .eql 31 (.slice a n c) (.slice none n' c')).run Try.prog w = .ok (.bool a.isNone) w := Lib.run_eql_slice_nil w _ _ a n c n' c' Try.underlying31

/-- From what the shell tells of a slice that came in to 'Reads'. -/
theorem reads_of {k : IntKind} {w : World} {a : Option Addr} {len cap : Nat} {zs : List Int}
    (h : (a = none ∧ len = 0 ∧ cap = 0 ∧ zs = []) ∨
      ∃ x, a = some x ∧ len ≤ cap ∧ cap ≤ maxLen ∧ zs.length = cap ∧ (∀ i, i < zs.length → w.cell? (x.add i) = some (.int k (zs.getD i 0))) ∧ ∀ n ∈ zs, (Lit.int k n).wf = true) :
    len ≤ maxLen ∧ Reads k w a len (fun i => zs.getD i 0) := by
  rcases h with ⟨_, rfl, _, _⟩ | ⟨x, rfl, h1, h2, h3, h4, _⟩
  · exact ⟨Nat.zero_le _, .inl rfl⟩
  · refine ⟨Nat.le_trans h1 h2, ?_⟩
    by_cases h0 : len = 0
    · exact .inl h0
    · obtain ⟨b, o, rfl, hc⟩ := ints_at h4 (by omega)
      exact .inr ⟨b, o, rfl, fun i hi => hc i (by omega)⟩

end Go.Proofs.Qxb6600284a
