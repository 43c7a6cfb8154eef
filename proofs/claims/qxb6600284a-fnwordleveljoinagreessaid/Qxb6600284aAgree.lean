/- Plain: two layings merged are the laying of the joined bits. -/
import Derived.Test.Qxb6600284aJoinFacts
namespace Go.Proofs.Qxb6600284a

/-- 'lay' from the front: places i .. i+n-1. -/
def layF (z y : Nat → Int) : Nat → Nat → List (Int × Int)
  | _, 0 => []
  | i, n + 1 => (if y i = 0 then [] else [(z i, y i)]) ++ layF z y (i + 1) n

theorem layF_snoc (z y : Nat → Int) : ∀ (n i : Nat), layF z y i (n + 1) = layF z y i n ++ (if y (i + n) = 0 then [] else [(z (i + n), y (i + n))]) := by
  intro n
  induction n with
  | zero => intro i; simp [layF]
  | succ n ih =>
    intro i
    rw [layF, ih (i + 1), layF]
    rw [show i + 1 + n = i + (n + 1) by omega]
    simp

theorem lay_eq (z y : Nat → Int) (n : Nat) : lay z y n = layF z y 0 n := by
  induction n with
  | zero => rfl
  | succ n ih => rw [lay, ih, layF_snoc, Nat.zero_add]

theorem layF_num (z y : Nat → Int) : ∀ (n i : Nat), ∀ p ∈ layF z y i n, ∃ j, i ≤ j ∧ j < i + n ∧ p.1 = z j := by
  intro n
  induction n with
  | zero => intro i p hp; simp [layF] at hp
  | succ n ih =>
    intro i p hp
    rw [layF, List.mem_append] at hp
    rcases hp with hp | hp
    · split at hp
      · simp at hp
      · simp at hp; exact ⟨i, by omega, by omega, by rw [hp]⟩
    · obtain ⟨j, h1, h2, h3⟩ := ih (i + 1) p hp
      exact ⟨j, by omega, by omega, h3⟩

theorem layF_len (z y : Nat → Int) : ∀ (n i : Nat), (layF z y i n).length ≤ n := by
  intro n
  induction n with
  | zero => intro i; simp [layF]
  | succ n ih => intro i; rw [layF, List.length_append]; have := ih (i + 1); split <;> simp <;> omega

theorem layF_merge {m : Nat} {z y1 y2 : Nat → Int} (hs : Strict m z) (hu1 : ∀ i, U64 (y1 i)) (hu2 : ∀ i, U64 (y2 i)) :
    ∀ (n i k : Nat), i + n ≤ m → 2 * n ≤ k → mrg (bits .or .u64) k (layF z y1 i n) (layF z y2 i n) = layF z (fun j => bits .or .u64 (y1 j) (y2 j)) i n := by
  intro n
  induction n with
  | zero => intro i k _ _; cases k <;> simp [layF, mrg]
  | succ n ih =>
    intro i k him hk
    obtain ⟨k, rfl⟩ : ∃ k', k = k' + 2 := ⟨k - 2, by omega⟩
    have l1 := layF_len z y1 n (i + 1)
    have l2 := layF_len z y2 n (i + 1)
    have hgt1 : ∀ p ∈ layF z y1 (i + 1) n, z i < p.1 := fun p hp => by
      obtain ⟨j, h1, h2, h3⟩ := layF_num z y1 n (i + 1) p hp
      rw [h3]; exact strict_lt hs i j (by omega) (by omega)
    have hgt2 : ∀ p ∈ layF z y2 (i + 1) n, z i < p.1 := fun p hp => by
      obtain ⟨j, h1, h2, h3⟩ := layF_num z y2 n (i + 1) p hp
      rw [h3]; exact strict_lt hs i j (by omega) (by omega)
    have IH := ih (i + 1) k (by omega) (by omega)
    have IH1 : mrg (bits .or .u64) (k + 1) (layF z y1 (i + 1) n) (layF z y2 (i + 1) n) = layF z (fun j => bits .or .u64 (y1 j) (y2 j)) (i + 1) n := ih (i + 1) (k + 1) (by omega) (by omega)
    have IH2 : mrg (bits .or .u64) (k + 2) (layF z y1 (i + 1) n) (layF z y2 (i + 1) n) = layF z (fun j => bits .or .u64 (y1 j) (y2 j)) (i + 1) n := ih (i + 1) (k + 2) (by omega) (by omega)
    have hor := or_eq_zero (hu1 i) (hu2 i)
    by_cases e1 : y1 i = 0
    · by_cases e2 : y2 i = 0
      · have e3 : bits .or .u64 (y1 i) (y2 i) = 0 := hor.2 ⟨e1, e2⟩
        simp only [layF, e1, e2, if_true, List.nil_append]
        rw [e1, e2] at e3
        rw [IH2, if_pos e3, List.nil_append]
      · have e3 : bits .or .u64 (y1 i) (y2 i) = y2 i := by rw [e1]; exact zero_or (hu2 i)
        simp only [layF, if_pos e1, if_neg e2, List.nil_append, List.singleton_append, e3]
        generalize hA : layF z y1 (i + 1) n = A at *
        cases A with
        | nil => rw [mrg, IH1]
        | cons p A =>
          have hp := hgt1 p (by simp)
          rw [mrg, if_neg (by simp; omega), if_pos (by simpa using hp), IH1]
    · by_cases e2 : y2 i = 0
      · have e3 : bits .or .u64 (y1 i) (y2 i) = y1 i := by rw [e2]; exact or_zero (hu1 i)
        simp only [layF, if_neg e1, if_pos e2, List.nil_append, List.singleton_append, e3]
        generalize hB : layF z y2 (i + 1) n = B at *
        cases B with
        | nil => rw [mrg, IH1]
        | cons q B =>
          have hq := hgt2 q (by simp)
          rw [mrg, if_pos (by simpa using hq), IH1]
      · have e3 : ¬ bits .or .u64 (y1 i) (y2 i) = 0 := fun h => e1 (hor.1 h).1
        simp only [layF, if_neg e1, if_neg e2, if_neg e3, List.singleton_append]
        rw [mrg, if_neg (by simp), if_neg (by simp), IH1]

theorem lay_merge {m n k : Nat} {z y1 y2 : Nat → Int} (hs : Strict m z) (hu1 : ∀ i, U64 (y1 i)) (hu2 : ∀ i, U64 (y2 i)) (hn : n ≤ m) (hk : (lay z y1 n).length + (lay z y2 n).length ≤ k) :
    mrg (bits .or .u64) k (lay z y1 n) (lay z y2 n) = lay z (fun j => bits .or .u64 (y1 j) (y2 j)) n := by
  have h := layF_merge hs hu1 hu2 n 0 (2 * n) (by omega) (Nat.le_refl _)
  rw [← lay_eq, ← lay_eq, ← lay_eq] at h
  rw [← h]
  have l1 := lay_le z y1 n
  have l2 := lay_le z y2 n
  exact mrg_fuel _ _ _ _ _ hk (by omega)

end Go.Proofs.Qxb6600284a
