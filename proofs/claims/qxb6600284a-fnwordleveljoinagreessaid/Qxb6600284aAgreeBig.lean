/- FnWordLevelJoinAgrees: the ways on which it answers at once. -/
import Derived.Test.Qxb6600284aBase
namespace Go.Proofs.Qxb6600284a
open Go.RowKit

theorem bytes32_ok (a1 a2 a3 a4 : Option Addr) (n1 n2 n3 n4 c1 c2 c3 c4 : Nat) (s1 s2 s3 : Int) (w : World) (h1 : n1 ≤ 131072) (h2 : n2 ≤ 131072) (h3 : n3 ≤ 131072) (h4 : n4 ≤ 131072) :
    Calls Try.prog 32 #[.int .i64 s1, .slice a1 n1 c1, .int .i64 s2, .slice a2 n2 c2, .int .i64 s3, .slice a3 n3 c3, .slice a4 n4 c4] w fun e w' => e = .returned (.bool true) ∧ w' = w := by
  go_enter Try.func32, Try.ntmps32
  go_wp2
  go_ret
  exact ⟨rfl, rfl⟩

set_option maxRecDepth 100000 in
set_option maxHeartbeats 4000000 in
theorem agree_big (a1 a2 a3 a4 : Option Addr) (n1 n2 n3 n4 c1 c2 c3 c4 : Nat) (s1 s2 s3 : Int) (w : World) (k1 : n1 ≤ maxLen) (k2 : n2 ≤ maxLen) (k3 : n3 ≤ maxLen) (k4 : n4 ≤ maxLen) (h : 131072 < n1 ∨ 131072 < n2 ∨ 131072 < n3 ∨ 131072 < n4) :
    Calls Try.prog 10 #[.int .i64 s1, .slice a1 n1 c1, .int .i64 s2, .slice a2 n2 c2, .int .i64 s3, .slice a3 n3 c3, .slice a4 n4 c4] w fun e w' => e = .returned (.bool true) ∧ Below w.heap.size w w' := by
  unfold maxLen at k1 k2 k3 k4
  by_cases h1 : 131072 < n1
  · clear h
    go_enter Try.func10, Try.ntmps10
    go_wp2
    all_goals (go_ret; exact ⟨rfl, Below.refl _ _⟩)
  · by_cases h2 : 131072 < n2
    · clear h
      go_enter Try.func10, Try.ntmps10
      go_wp2
      all_goals (go_ret; exact ⟨rfl, Below.refl _ _⟩)
    · by_cases h3 : 131072 < n3
      · clear h
        go_enter Try.func10, Try.ntmps10
        go_wp2
        all_goals (go_ret; exact ⟨rfl, Below.refl _ _⟩)
      · have h4 : 131072 < n4 := by omega
        clear h
        go_enter Try.func10, Try.ntmps10
        go_wp2
        all_goals (go_ret; exact ⟨rfl, Below.refl _ _⟩)

set_option maxRecDepth 100000 in
set_option maxHeartbeats 2000000 in
theorem agree_sum (a1 a2 a3 a4 : Option Addr) (n1 n2 n3 n4 c1 c2 c3 c4 : Nat) (s1 s2 s3 : Int) (w : World) (k1 : n1 ≤ 131072) (k2 : n2 ≤ 131072) (k3 : n3 ≤ 131072) (k4 : n4 ≤ 131072) (h : 131072 < n1 + n2 + n3 + n4 ∨ n1 ≠ n2 ∨ n3 < n1) :
    Calls Try.prog 10 #[.int .i64 s1, .slice a1 n1 c1, .int .i64 s2, .slice a2 n2 c2, .int .i64 s3, .slice a3 n3 c3, .slice a4 n4 c4] w fun e w' => e = .returned (.bool true) ∧ Below w.heap.size w w' := by
  by_cases h1 : 131072 < n1 + n2 + n3 + n4
  · clear h
    go_enter Try.func10, Try.ntmps10
    go_wp2
    all_goals (go_ret; exact ⟨rfl, Below.refl _ _⟩)
  · by_cases h2 : n1 = n2
    · have h3 : n3 < n1 := by omega
      subst h2
      clear h
      go_enter Try.func10, Try.ntmps10
      go_wp2
      all_goals (go_ret; exact ⟨rfl, Below.refl _ _⟩)
    · have hb : ((n1 : Int) != (n2 : Int)) = true := by simp; omega
      clear h
      go_enter Try.func10, Try.ntmps10
      go_wp2
      all_goals (go_ret; exact ⟨rfl, Below.refl _ _⟩)

end Go.Proofs.Qxb6600284a
