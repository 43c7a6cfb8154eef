/- Plain facts on 'lay'. -/
import Derived.Test.Qxb6600284aLevel
import Derived.Test.Qxb6600284aLookup
namespace Go.Proofs.Qxb6600284a

theorem strict_lt {n : Nat} {z : Nat → Int} (h : Strict n z) (i j : Nat) (hij : i < j) (hj : j < n) : z i < z j :=
  Int.lt_of_lt_of_le (h i (by omega)) (h.nonDec'.le (i + 1) j (by omega) hj)

theorem strict_inj {n : Nat} {z : Nat → Int} (h : Strict n z) (i j : Nat) (hi : i < n) (hj : j < n) (e : z i = z j) : i = j := by
  rcases Nat.lt_trichotomy i j with k | k | k
  · have := strict_lt h i j k hj; omega
  · exact k
  · have := strict_lt h j i k hi; omega

theorem mem_lay (z y : Nat → Int) (n : Nat) (p : Int × Int) : p ∈ lay z y n ↔ ∃ i, i < n ∧ y i ≠ 0 ∧ p = (z i, y i) := by
  induction n with
  | zero => simp [lay]
  | succ n ih =>
    rw [lay, List.mem_append, ih]
    constructor
    · rintro (⟨i, h1, h2, h3⟩ | h)
      · exact ⟨i, by omega, h2, h3⟩
      · by_cases e : y n = 0
        · rw [if_pos e] at h; simp at h
        · rw [if_neg e] at h; exact ⟨n, by omega, e, by simpa using h⟩
    · rintro ⟨i, h1, h2, h3⟩
      by_cases e : i = n
      · subst e; right; rw [if_neg h2]; simp [h3]
      · left; exact ⟨i, by omega, h2, h3⟩

theorem lay_pairwise {z y : Nat → Int} {m : Nat} (hs : Strict m z) (n : Nat) (hn : n ≤ m) : (lay z y n).Pairwise (fun a b => a.1 < b.1) := by
  induction n with
  | zero => simp [lay]
  | succ n ih =>
    rw [lay, List.pairwise_append]
    refine ⟨ih (by omega), ?_, ?_⟩
    · split <;> simp
    · intro a ha b hb
      obtain ⟨i, h1, h2, h3⟩ := (mem_lay z y n a).1 ha
      split at hb
      · simp at hb
      · simp at hb
        subst h3; subst hb
        exact strict_lt hs i n h1 (by omega)

/-- A list of words, strictly increasing, as a function of the place. -/
theorem strict_of_pairwise {ws : List (Int × Int)} (h : ws.Pairwise (fun a b => a.1 < b.1)) : Strict ws.length (fun i => (ws.getD i (0, 0)).1) := by
  intro j hj
  have := List.pairwise_iff_getElem.1 h j (j + 1) (by omega) hj (by omega)
  simpa [List.getD, hj, show j < ws.length by omega] using this

theorem getD_mem {ws : List (Int × Int)} (i : Nat) (h : i < ws.length) : ws.getD i (0, 0) ∈ ws := by
  simp [List.getD, h]

theorem mem_getD {ws : List (Int × Int)} {p : Int × Int} (h : p ∈ ws) : ∃ i, i < ws.length ∧ ws.getD i (0, 0) = p := by
  obtain ⟨i, hi, e⟩ := List.mem_iff_getElem.1 h
  exact ⟨i, hi, by simp [List.getD, hi, e]⟩

/-- What zzLookup answers over a list of words. -/
theorem found_mem {ws : List (Int × Int)} {x v : Int} {f : Bool} (h : Found ws.length (fun i => (ws.getD i (0, 0)).1) (fun i => (ws.getD i (0, 0)).2) x v f) : (f = true ∧ (x, v) ∈ ws) ∨ (f = false ∧ v = 0 ∧ ∀ u, (x, u) ∉ ws) := by
  rcases h with ⟨h1, i, h2, h3, h4⟩ | ⟨h1, h2, h3⟩
  · refine .inl ⟨h1, ?_⟩
    have := getD_mem i h2
    rw [show ws.getD i (0, 0) = (x, v) from by rw [← h3, h4]] at this
    exact this
  · refine .inr ⟨h1, h2, fun u hu => ?_⟩
    obtain ⟨i, hi, e⟩ := mem_getD hu
    exact h3 i hi (by simp only [e])

theorem lay_look {z y : Nat → Int} {m n k : Nat} {v : Int} {f : Bool} (hs : Strict m z) (hn : n ≤ m) (hk : k < n)
    (h : Found (lay z y n).length (fun i => ((lay z y n).getD i (0, 0)).1) (fun i => ((lay z y n).getD i (0, 0)).2) (z k) v f) : (y k = 0 ∧ f = false) ∨ (y k ≠ 0 ∧ f = true ∧ v = y k) := by
  rcases found_mem h with ⟨h1, h2⟩ | ⟨h1, h2, h3⟩
  · obtain ⟨i, hi, hy, e⟩ := (mem_lay z y n _).1 h2
    simp only [Prod.mk.injEq] at e
    obtain rfl : k = i := strict_inj hs k i (by omega) (by omega) e.1
    exact .inr ⟨hy, h1, e.2⟩
  · left
    refine ⟨?_, h1⟩
    by_cases e : y k = 0
    · exact e
    · exact absurd ((mem_lay z y n (z k, y k)).2 ⟨k, hk, e, rfl⟩) (h3 _)

end Go.Proofs.Qxb6600284a
