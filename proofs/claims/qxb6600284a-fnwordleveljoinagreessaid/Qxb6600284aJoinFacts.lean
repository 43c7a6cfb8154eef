/- What the laws on join want to know of the merge: plain facts over 'bits .or .u64'. -/
import Derived.Test.Qxb6600284aLayFacts
import Derived.Test.Qxb6600284aMrgFacts
namespace Go.Proofs.Qxb6600284a

def U64 (a : Int) : Prop := 0 ≤ a ∧ a < 18446744073709551616

theorem or_zero {a : Int} (h : U64 a) : bits .or .u64 a 0 = a := by
  rw [u64_or a 0 h.1 h.2 (by omega) (by omega)]
  have := h.1
  simp; omega
theorem zero_or {a : Int} (h : U64 a) : bits .or .u64 0 a = a := by
  rw [u64_or 0 a (by omega) (by omega) h.1 h.2]
  have := h.1
  simp; omega
theorem or_eq_zero {a b : Int} (h : U64 a) (h' : U64 b) : bits .or .u64 a b = 0 ↔ a = 0 ∧ b = 0 := by
  rw [u64_or a b h.1 h.2 h'.1 h'.2]
  have h1 := h.1
  have h2 := h'.1
  constructor
  · intro e
    have e' : a.toNat ||| b.toNat = 0 := by omega
    have := Nat.left_le_or (n := a.toNat) (m := b.toNat)
    have := Nat.right_le_or (n := a.toNat) (m := b.toNat)
    omega
  · rintro ⟨rfl, rfl⟩; rfl

theorem inc_ofFn {n : Nat} {z : Nat → Int} (y : Nat → Int) (h : Strict n z) : Inc (ofFn n z y) := by
  unfold Inc ofFn
  rw [List.pairwise_map]
  refine List.pairwise_iff_getElem.2 fun i j hi hj hij => ?_
  simp only [List.length_range] at hi hj
  simp only [List.getElem_range]
  exact strict_lt h i j hij hj

/-- What the two look-ups answer at a word of the merge. -/
theorem join_look {n1 n2 k : Nat} {z1 y1 z2 y2 : Nat → Int} {r : Int × Int} {lv ov : Int} {lf of : Bool} (hs1 : Strict n1 z1) (hs2 : Strict n2 z2) (hu1 : ∀ i, i < n1 → U64 (y1 i)) (hu2 : ∀ i, i < n2 → U64 (y2 i))
    (hr : r ∈ mrg (bits .or .u64) k (ofFn n1 z1 y1) (ofFn n2 z2 y2)) (h1 : Found n1 z1 y1 r.1 lv lf) (h2 : Found n2 z2 y2 r.1 ov of) : (lf = true ∨ of = true) ∧ bits .or .u64 lv ov = r.2 := by
  have key1 : ∀ u, (r.1, u) ∈ ofFn n1 z1 y1 → lf = true ∧ lv = u := fun u hu => by
    obtain ⟨i, hi, e⟩ := (mem_ofFn _ _ _ _).1 hu
    simp only [Prod.mk.injEq] at e
    rcases h1 with ⟨f, j, hj, e1, e2⟩ | ⟨_, _, h⟩
    · obtain rfl : j = i := strict_inj hs1 j i hj hi (by rw [e1, e.1])
      exact ⟨f, by rw [e2, e.2]⟩
    · exact absurd e.1.symm (h i hi)
  have key2 : ∀ u, (r.1, u) ∈ ofFn n2 z2 y2 → of = true ∧ ov = u := fun u hu => by
    obtain ⟨i, hi, e⟩ := (mem_ofFn _ _ _ _).1 hu
    simp only [Prod.mk.injEq] at e
    rcases h2 with ⟨f, j, hj, e1, e2⟩ | ⟨_, _, h⟩
    · obtain rfl : j = i := strict_inj hs2 j i hj hi (by rw [e1, e.1])
      exact ⟨f, by rw [e2, e.2]⟩
    · exact absurd e.1.symm (h i hi)
  have no1 : (∀ p ∈ ofFn n1 z1 y1, p.1 ≠ r.1) → lv = 0 := fun h => by
    rcases h1 with ⟨f, j, hj, e1, e2⟩ | ⟨_, h0, _⟩
    · exact absurd e1 (h (z1 j, y1 j) ((mem_ofFn _ _ _ _).2 ⟨j, hj, rfl⟩))
    · exact h0
  have no2 : (∀ p ∈ ofFn n2 z2 y2, p.1 ≠ r.1) → ov = 0 := fun h => by
    rcases h2 with ⟨f, j, hj, e1, e2⟩ | ⟨_, h0, _⟩
    · exact absurd e1 (h (z2 j, y2 j) ((mem_ofFn _ _ _ _).2 ⟨j, hj, rfl⟩))
    · exact h0
  rcases mrg_mem _ k _ _ (inc_ofFn y1 hs1) (inc_ofFn y2 hs2) r hr with ⟨u, v, g1, g2, g3⟩ | ⟨g1, g2⟩ | ⟨g1, g2⟩
  · obtain ⟨a1, rfl⟩ := key1 u g1
    obtain ⟨_, rfl⟩ := key2 v g2
    exact ⟨.inl a1, g3.symm⟩
  · obtain ⟨a1, a2⟩ := key1 r.2 g1
    obtain ⟨i, hi, e⟩ := (mem_ofFn _ _ _ _).1 g1
    rw [no2 g2, a2, or_zero (by rw [e]; exact hu1 i hi)]
    exact ⟨.inl a1, rfl⟩
  · obtain ⟨a1, a2⟩ := key2 r.2 g1
    obtain ⟨i, hi, e⟩ := (mem_ofFn _ _ _ _).1 g1
    rw [no1 g2, a2, zero_or (by rw [e]; exact hu2 i hi)]
    exact ⟨.inr a1, rfl⟩

/-- The count that the law's first loop makes. -/
theorem shared_step {n2 k : Nat} {z1 y1 z2 y2 : Nat → Int} {v : Int} {f : Bool} (h : Found n2 z2 y2 (z1 k) v f) : shared (ofFn n2 z2 y2) (ofFn (k + 1) z1 y1) = shared (ofFn n2 z2 y2) (ofFn k z1 y1) + (if f = true then 1 else 0) := by
  have hf : hasNum (ofFn n2 z2 y2) (z1 k) = f := by
    rw [Bool.eq_iff_iff, hasNum_iff]
    rcases h with ⟨h1, i, h2, h3, _⟩ | ⟨h1, _, h3⟩
    · exact ⟨fun _ => h1, fun _ => ⟨(z2 i, y2 i), (mem_ofFn _ _ _ _).2 ⟨i, h2, rfl⟩, h3⟩⟩
    · rw [h1]
      refine ⟨fun ⟨q, hq, e⟩ => ?_, fun e => by simp at e⟩
      obtain ⟨i, hi, rfl⟩ := (mem_ofFn _ _ _ _).1 hq
      exact absurd e (h3 i hi)
  rw [ofFn_succ]
  unfold shared
  rw [List.filter_append, List.length_append]
  congr 1
  cases f <;> simp [hf]

end Go.Proofs.Qxb6600284a
