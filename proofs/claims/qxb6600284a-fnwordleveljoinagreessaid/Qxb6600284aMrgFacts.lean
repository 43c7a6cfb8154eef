/- More plain laws of the merge. -/
import Derived.Test.Qxb6600284aMrg
namespace Go.Proofs.Qxb6600284a

theorem Inc.head_le {p : Int × Int} {ws : List (Int × Int)} (h : Inc (p :: ws)) : ∀ q ∈ p :: ws, p.1 ≤ q.1 := by
  intro q hq
  rcases List.mem_cons.1 hq with rfl | hq
  · exact Int.le_refl _
  · exact Int.le_of_lt (h.head q hq)

/-- What a word of the merge is. -/
theorem mrg_mem (f : Int → Int → Int) : ∀ (k : Nat) (as bs : List (Int × Int)), Inc as → Inc bs → ∀ r ∈ mrg f k as bs,
    (∃ u v, (r.1, u) ∈ as ∧ (r.1, v) ∈ bs ∧ r.2 = f u v) ∨ (r ∈ as ∧ ∀ q ∈ bs, q.1 ≠ r.1) ∨ (r ∈ bs ∧ ∀ p ∈ as, p.1 ≠ r.1) := by
  intro k
  induction k with
  | zero => intro as bs _ _ r hr; simp [mrg] at hr
  | succ k ih =>
    intro as bs ha hb r hr
    cases as with
    | nil =>
      cases bs with
      | nil => simp [mrg] at hr
      | cons q bs =>
        rw [mrg, List.mem_cons] at hr
        rcases hr with rfl | hr
        · exact .inr (.inr ⟨by simp, by simp⟩)
        · rcases ih _ _ ha hb.tail r hr with ⟨u, v, h1, _, _⟩ | ⟨h1, _⟩ | ⟨h1, _⟩
          · simp at h1
          · simp at h1
          · exact .inr (.inr ⟨by simp [h1], by simp⟩)
    | cons p as =>
      cases bs with
      | nil =>
        rw [mrg, List.mem_cons] at hr
        rcases hr with rfl | hr
        · exact .inr (.inl ⟨by simp, by simp⟩)
        · rcases ih _ _ ha.tail hb r hr with ⟨u, v, _, h1, _⟩ | ⟨h1, _⟩ | ⟨h1, _⟩
          · simp at h1
          · exact .inr (.inl ⟨by simp [h1], by simp⟩)
          · simp at h1
      | cons q bs =>
        rw [mrg] at hr
        split at hr
        · rename_i hlt
          rw [List.mem_cons] at hr
          rcases hr with rfl | hr
          · exact .inr (.inl ⟨by simp, fun q' hq' => by have := hb.head_le q' hq'; omega⟩)
          · rcases ih _ _ ha.tail hb r hr with ⟨u, v, h1, h2, h3⟩ | ⟨h1, h2⟩ | ⟨h1, h2⟩
            · exact .inl ⟨u, v, by simp [h1], h2, h3⟩
            · exact .inr (.inl ⟨by simp [h1], h2⟩)
            · refine .inr (.inr ⟨h1, fun p' hp' => ?_⟩)
              rcases List.mem_cons.1 hp' with rfl | hp'
              · have := hb.head_le r h1; omega
              · exact h2 p' hp'
        · split at hr
          · rename_i _ hlt
            rw [List.mem_cons] at hr
            rcases hr with rfl | hr
            · exact .inr (.inr ⟨by simp, fun p' hp' => by have := ha.head_le p' hp'; omega⟩)
            · rcases ih _ _ ha hb.tail r hr with ⟨u, v, h1, h2, h3⟩ | ⟨h1, h2⟩ | ⟨h1, h2⟩
              · exact .inl ⟨u, v, h1, by simp [h2], h3⟩
              · refine .inr (.inl ⟨h1, fun q' hq' => ?_⟩)
                rcases List.mem_cons.1 hq' with rfl | hq'
                · have := ha.head_le r h1; omega
                · exact h2 q' hq'
              · exact .inr (.inr ⟨by simp [h1], h2⟩)
          · rename_i g1 g2
            have e : p.1 = q.1 := by omega
            clear g1 g2
            rw [List.mem_cons] at hr
            rcases hr with rfl | hr
            · exact .inl ⟨p.2, q.2, by simp, by rw [e]; simp, rfl⟩
            · rcases ih _ _ ha.tail hb.tail r hr with ⟨u, v, h1, h2, h3⟩ | ⟨h1, h2⟩ | ⟨h1, h2⟩
              · exact .inl ⟨u, v, by simp [h1], by simp [h2], h3⟩
              · refine .inr (.inl ⟨by simp [h1], fun q' hq' => ?_⟩)
                rcases List.mem_cons.1 hq' with rfl | hq'
                · have := ha.head r h1; omega
                · exact h2 q' hq'
              · refine .inr (.inr ⟨by simp [h1], fun p' hp' => ?_⟩)
                rcases List.mem_cons.1 hp' with rfl | hp'
                · have := hb.head r h1; omega
                · exact h2 p' hp'

/-- Has 'bs' a word of that number? -/
def hasNum (bs : List (Int × Int)) (x : Int) : Bool := bs.any (fun q => q.1 == x)
theorem hasNum_iff (bs : List (Int × Int)) (x : Int) : hasNum bs x = true ↔ ∃ q ∈ bs, q.1 = x := by
  simp [hasNum]
/-- How many of 'as' have a fellow in 'bs'. -/
def shared (bs as : List (Int × Int)) : Nat := (as.filter (fun p => hasNum bs p.1)).length

theorem shared_nil (as : List (Int × Int)) : shared [] as = 0 := by simp [shared, hasNum]
theorem shared_cons_far {q : Int × Int} {bs as : List (Int × Int)} (h : ∀ p ∈ as, p.1 ≠ q.1) : shared (q :: bs) as = shared bs as := by
  unfold shared
  congr 1
  apply List.filter_congr
  intro p hp
  have hne : (q.1 == p.1) = false := by have := h p hp; simp; omega
  simp [hasNum, hne]

/-- The merge has as many words as the two, less those that they share. -/
theorem mrg_length (f : Int → Int → Int) : ∀ (k : Nat) (as bs : List (Int × Int)), Inc as → Inc bs → as.length + bs.length ≤ k → (mrg f k as bs).length + shared bs as = as.length + bs.length := by
  intro k
  induction k with
  | zero =>
    intro as bs _ _ h
    obtain rfl : as = [] := List.eq_nil_of_length_eq_zero (by omega)
    obtain rfl : bs = [] := List.eq_nil_of_length_eq_zero (by omega)
    simp [mrg, shared]
  | succ k ih =>
    intro as bs ha hb h
    cases as with
    | nil =>
      rw [mrg_nil_left f (k + 1) bs (by simpa using h)]
      simp [shared]
    | cons p as =>
      cases bs with
      | nil =>
        rw [mrg_nil_right f (k + 1) (p :: as) (by simpa using h), shared_nil]
        simp
      | cons q bs =>
        simp only [List.length_cons] at h
        rw [mrg]
        split
        · rename_i hlt
          have hno : hasNum (q :: bs) p.1 = false := by
            cases e : hasNum (q :: bs) p.1
            · rfl
            · obtain ⟨q', hq', e'⟩ := (hasNum_iff _ _).1 e
              have := hb.head_le q' hq'; omega
          have := ih as (q :: bs) ha.tail hb (by simp; omega)
          have e : shared (q :: bs) (p :: as) = shared (q :: bs) as := by simp [shared, hno]
          rw [e]; simp only [List.length_cons] at this ⊢; omega
        · split
          · rename_i _ hlt
            have := ih (p :: as) bs ha hb.tail (by simp; omega)
            rw [shared_cons_far (fun p' hp' => by have := ha.head_le p' hp'; omega)]
            simp only [List.length_cons] at this ⊢; omega
          · rename_i h1 h2
            have e : p.1 = q.1 := by omega
            have := ih as bs ha.tail hb.tail (by omega)
            have hyes : hasNum (q :: bs) p.1 = true := (hasNum_iff _ _).2 ⟨q, by simp, e.symm⟩
            have e1 : shared (q :: bs) (p :: as) = shared (q :: bs) as + 1 := by simp [shared, hyes]
            rw [e1, shared_cons_far (fun p' hp' => by have := ha.head p' hp'; omega)]
            simp only [List.length_cons] at this ⊢; omega

/-- The list of the first n words of two functions. -/
def ofFn (n : Nat) (z y : Nat → Int) : List (Int × Int) := (List.range n).map (fun i => (z i, y i))
theorem ofFn_length (n : Nat) (z y : Nat → Int) : (ofFn n z y).length = n := by simp [ofFn]
theorem ofFn_succ (n : Nat) (z y : Nat → Int) : ofFn (n + 1) z y = ofFn n z y ++ [(z n, y n)] := by simp [ofFn, List.range_succ]
theorem ofFn_getD (n : Nat) (z y : Nat → Int) (i : Nat) (h : i < n) : (ofFn n z y).getD i (0, 0) = (z i, y i) := by simp [ofFn, List.getD, h]
theorem mem_ofFn (n : Nat) (z y : Nat → Int) (p : Int × Int) : p ∈ ofFn n z y ↔ ∃ i, i < n ∧ p = (z i, y i) := by
  simp only [ofFn, List.mem_map, List.mem_range]
  constructor
  · rintro ⟨i, h1, h2⟩; exact ⟨i, h1, h2.symm⟩
  · rintro ⟨i, h1, h2⟩; exact ⟨i, h1, h2.symm⟩

end Go.Proofs.Qxb6600284a
