/- FnDroppedEachEndCaseTable: all ways together. -/
import Derived.Test.Qxb6600327aDropWalk
import Derived.Test.Qxb6600327aDropWalkC
namespace Go.Proofs.Qxb6600327a
open Go.RowKit

theorem drop_row (h0 : Bool) (x1 : Int) (h2 : Bool) (x3 : Int) {a : Option Addr} {n : Nat} {ss : List ByteArray} (cap : Nat) (h5 : Bool) {a6 : Option Addr} {n6 : Nat} {z6 : List Int} (c6 : Nat) {a7 : Option Addr} {n7 : Nat} {z7 : List Int} (c7 : Nat) (x8 : Int) (w : World)
    (h : IsStrs w a n cap ss) (i6 : IsInts w a6 n6 c6 z6) (i7 : IsInts w a7 n7 c7 z7) :
    Calls Try.prog 3 #[.bool h0, .int .i64 x1, .bool h2, .int .i64 x3, .slice a n cap, .bool h5, .slice a6 n6 c6, .slice a7 n7 c7, .int .i64 x8] w fun e w' => e = .returned (.bool true) ∧ Below w.heap.size w w' := by
  obtain ⟨k1, k2, k3⟩ := isStrs_reads h
  obtain ⟨k6, r6⟩ := isInts_reads i6
  obtain ⟨k7, r7⟩ := isInts_reads i7
  cases h0
  · cases h2
    · cases h5
      · exact dropFFF x1 x3 x8 cap n6 c6 n7 c7 w k1 k6 k7 k2 k3 r6 r7
      · exact dropFFT x1 x3 x8 cap n6 c6 n7 c7 w k1 k6 k7 k2 k3 r6 r7
    · cases h5
      · exact dropFTF x1 x3 x8 cap n6 c6 n7 c7 w k1 k6 k7 k2 k3 r6 r7
      · exact dropFTT x1 x3 x8 cap n6 c6 n7 c7 w k1 k6 k7 k2 k3 r6 r7
  · cases h2
    · cases h5
      · exact dropTFF x1 x3 x8 cap n6 c6 n7 c7 w k1 k6 k7 k2 k3 r6 r7
      · exact dropTFT x1 x3 x8 cap n6 c6 n7 c7 w k1 k6 k7 k2 k3 r6 r7
    · cases h5
      · exact dropTTF x1 x3 x8 cap n6 c6 n7 c7 w k1 k6 k7 k2 k3 r6 r7
      · exact dropTTT x1 x3 x8 cap n6 c6 n7 c7 w k1 k6 k7 k2 k3 r6 r7

end Go.Proofs.Qxb6600327a
