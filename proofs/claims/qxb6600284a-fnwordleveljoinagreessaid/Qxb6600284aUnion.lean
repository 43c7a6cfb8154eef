/- FnJoinIsUnionOfWords: the ways on which it answers at once. -/
import Derived.Test.Qxb6600284aBase
namespace Go.Proofs.Qxb6600284a
open Go.RowKit

theorem bytes26_ok (a1 a2 a3 a4 : Option Addr) (n1 n2 n3 n4 c1 c2 c3 c4 : Nat) (s1 s2 : Int) (w : World) (h1 : n1 ≤ 131072) (h2 : n2 ≤ 131072) (h3 : n3 ≤ 131072) (h4 : n4 ≤ 131072) :
    Calls Try.prog 26 #[.int .i64 s1, .slice a1 n1 c1, .slice a2 n2 c2, .int .i64 s2, .slice a3 n3 c3, .slice a4 n4 c4] w fun e w' => e = .returned (.bool true) ∧ w' = w := by
  go_enter Try.func26, Try.ntmps26
  go_wp2
  go_ret
  exact ⟨rfl, rfl⟩

set_option maxRecDepth 100000 in
set_option maxHeartbeats 4000000 in
theorem union_big (a1 a2 a3 a4 : Option Addr) (n1 n2 n3 n4 c1 c2 c3 c4 : Nat) (s1 s2 : Int) (w : World) (k1 : n1 ≤ maxLen) (k2 : n2 ≤ maxLen) (k3 : n3 ≤ maxLen) (k4 : n4 ≤ maxLen) (h : 131072 < n1 ∨ 131072 < n2 ∨ 131072 < n3 ∨ 131072 < n4) :
    Calls Try.prog 7 #[.int .i64 s1, .slice a1 n1 c1, .slice a2 n2 c2, .int .i64 s2, .slice a3 n3 c3, .slice a4 n4 c4] w fun e w' => e = .returned (.bool true) ∧ Below w.heap.size w w' := by
  unfold maxLen at k1 k2 k3 k4
  by_cases h1 : 131072 < n1
  · clear h
    go_enter Try.func7, Try.ntmps7
    go_wp2
    all_goals (go_ret; exact ⟨rfl, Below.refl _ _⟩)
  · by_cases h2 : 131072 < n2
    · clear h
      go_enter Try.func7, Try.ntmps7
      go_wp2
      all_goals (go_ret; exact ⟨rfl, Below.refl _ _⟩)
    · by_cases h3 : 131072 < n3
      · clear h
        go_enter Try.func7, Try.ntmps7
        go_wp2
        all_goals (go_ret; exact ⟨rfl, Below.refl _ _⟩)
      · have h4 : 131072 < n4 := by omega
        clear h
        go_enter Try.func7, Try.ntmps7
        go_wp2
        all_goals (go_ret; exact ⟨rfl, Below.refl _ _⟩)

set_option maxRecDepth 100000 in
set_option maxHeartbeats 1000000 in
theorem union_sum (a1 a2 a3 a4 : Option Addr) (n1 n2 n3 n4 c1 c2 c3 c4 : Nat) (s1 s2 : Int) (w : World) (k1 : n1 ≤ 131072) (k2 : n2 ≤ 131072) (k3 : n3 ≤ 131072) (k4 : n4 ≤ 131072) (h1 : 131072 < n1 + n2 + n3 + n4) :
    Calls Try.prog 7 #[.int .i64 s1, .slice a1 n1 c1, .slice a2 n2 c2, .int .i64 s2, .slice a3 n3 c3, .slice a4 n4 c4] w fun e w' => e = .returned (.bool true) ∧ Below w.heap.size w w' := by
  go_enter Try.func7, Try.ntmps7
  go_wp2
  all_goals (go_ret; exact ⟨rfl, Below.refl _ _⟩)

/-- 'reads_of', and of uint64s that each fits. -/
theorem reads_u64 {w : World} {a : Option Addr} {len cap : Nat} {zs : List Int}
    (h : (a = none ∧ len = 0 ∧ cap = 0 ∧ zs = []) ∨
      ∃ x, a = some x ∧ len ≤ cap ∧ cap ≤ maxLen ∧ zs.length = cap ∧ (∀ i, i < zs.length → w.cell? (x.add i) = some (.int .u64 (zs.getD i 0))) ∧ ∀ n ∈ zs, (Lit.int .u64 n).wf = true) :
    ∀ i, 0 ≤ zs.getD i 0 ∧ zs.getD i 0 < 18446744073709551616 := by
  intro i
  have hz : ∀ n ∈ zs, (Lit.int .u64 n).wf = true := by
    rcases h with ⟨_, _, _, rfl⟩ | ⟨x, _, _, _, _, _, h⟩
    · intro n hn; simp at hn
    · exact h
  have := range_u64 hz i
  rw [show zs.getD i 0 = zs[i]?.getD 0 from by simp [List.getD]]
  omega

end Go.Proofs.Qxb6600284a
