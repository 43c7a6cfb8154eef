/- FnWordLevelLaysBoundWords: the walk. -/
import Derived.Test.Qxb6600284aLayFacts
import Derived.Test.Qxb6600284aMake
import Derived.Test.Qxb6600284aParts
namespace Go.Proofs.Qxb6600284a
open Go.RowKit

theorem bytes19_ok (a1 a2 a3 : Option Addr) (n m l c1 c2 c3 : Nat) (s bs : Int) (w : World) (h1 : n ≤ 131072) (h2 : m ≤ 131072) (h3 : l ≤ 131072) :
    Calls Try.prog 19 #[.int .i64 s, .slice a1 n c1, .int .i64 bs, .slice a2 m c2, .slice a3 l c3] w fun e w' => e = .returned (.bool true) ∧ w' = w := by
  go_enter Try.func19, Try.ntmps19
  go_wp2
  go_ret
  exact ⟨rfl, rfl⟩

set_option maxHeartbeats 1000000 in
theorem lays_big (a1 a2 a3 : Option Addr) (n m l c1 c2 c3 : Nat) (s bs : Int) (w : World) (k1 : n ≤ maxLen) (k2 : m ≤ maxLen) (k3 : l ≤ maxLen) (h : 131072 < n ∨ 131072 < m ∨ 131072 < l) :
    Calls Try.prog 6 #[.int .i64 s, .slice a1 n c1, .int .i64 bs, .slice a2 m c2, .slice a3 l c3] w fun e w' => e = .returned (.bool true) ∧ Below w.heap.size w w' := by
  unfold maxLen at k1 k2 k3
  by_cases h1 : 131072 < n
  · clear h
    go_enter Try.func6, Try.ntmps6
    go_wp2
    all_goals (go_ret; exact ⟨rfl, Below.refl _ _⟩)
  · by_cases h2 : 131072 < m
    · clear h
      go_enter Try.func6, Try.ntmps6
      go_wp2
      all_goals (go_ret; exact ⟨rfl, Below.refl _ _⟩)
    · have h3 : 131072 < l := by omega
      clear h
      go_enter Try.func6, Try.ntmps6
      go_wp2
      all_goals (go_ret; exact ⟨rfl, Below.refl _ _⟩)

set_option maxHeartbeats 1000000 in
theorem lays_sum (a1 a2 a3 : Option Addr) (n m l c1 c2 c3 : Nat) (s bs : Int) (w : World) (k1 : n ≤ 131072) (k2 : m ≤ 131072) (k3 : l ≤ 131072) (h : 131072 < n + m + l ∨ m < n) :
    Calls Try.prog 6 #[.int .i64 s, .slice a1 n c1, .int .i64 bs, .slice a2 m c2, .slice a3 l c3] w fun e w' => e = .returned (.bool true) ∧ Below w.heap.size w w' := by
  by_cases h1 : 131072 < n + m + l
  · clear h
    go_enter Try.func6, Try.ntmps6
    go_wp2
    all_goals (go_ret; exact ⟨rfl, Below.refl _ _⟩)
  · have h2 : m < n := by omega
    clear h
    go_enter Try.func6, Try.ntmps6
    go_wp2
    all_goals (go_ret; exact ⟨rfl, Below.refl _ _⟩)

end Go.Proofs.Qxb6600284a
