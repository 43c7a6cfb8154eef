/- The plain function that join computes, and its laws: no Go in sight. -/
namespace Go.Proofs.Qxb6600284a

/-- The merge of two lists of words, the bits of equal numbers joined by 'f'; the first number is fuel. -/
def mrg (f : Int → Int → Int) : Nat → List (Int × Int) → List (Int × Int) → List (Int × Int)
  | 0, _, _ => []
  | _ + 1, [], [] => []
  | k + 1, p :: as, [] => p :: mrg f k as []
  | k + 1, [], q :: bs => q :: mrg f k [] bs
  | k + 1, p :: as, q :: bs => if p.1 < q.1 then p :: mrg f k as (q :: bs) else if q.1 < p.1 then q :: mrg f k (p :: as) bs else (p.1, f p.2 q.2) :: mrg f k as bs

/-- Fuel that is enough is enough. -/
theorem mrg_fuel (f : Int → Int → Int) : ∀ (k k' : Nat) (as bs : List (Int × Int)), as.length + bs.length ≤ k → as.length + bs.length ≤ k' → mrg f k as bs = mrg f k' as bs := by
  intro k
  induction k with
  | zero =>
    intro k' as bs h _
    obtain rfl : as = [] := List.eq_nil_of_length_eq_zero (by omega)
    obtain rfl : bs = [] := List.eq_nil_of_length_eq_zero (by omega)
    cases k' <;> rfl
  | succ k ih =>
    intro k' as bs h h'
    cases k' with
    | zero =>
      obtain rfl : as = [] := List.eq_nil_of_length_eq_zero (by omega)
      obtain rfl : bs = [] := List.eq_nil_of_length_eq_zero (by omega)
      rfl
    | succ k' =>
      cases as with
      | nil =>
        cases bs with
        | nil => rfl
        | cons q bs => simp only [List.length_cons, List.length_nil] at h h'; rw [mrg, mrg, ih k' [] bs (by simp; omega) (by simp; omega)]
      | cons p as =>
        cases bs with
        | nil => simp only [List.length_cons, List.length_nil] at h h'; rw [mrg, mrg, ih k' as [] (by simp; omega) (by simp; omega)]
        | cons q bs =>
          simp only [List.length_cons] at h h'
          rw [mrg, mrg, ih k' as (q :: bs) (by simp; omega) (by simp; omega), ih k' (p :: as) bs (by simp; omega) (by simp; omega), ih k' as bs (by omega) (by omega)]

theorem mrg_nil_right (f : Int → Int → Int) : ∀ (k : Nat) (as : List (Int × Int)), as.length ≤ k → mrg f k as [] = as := by
  intro k
  induction k with
  | zero => intro as h; obtain rfl : as = [] := List.eq_nil_of_length_eq_zero (by omega)
            rfl
  | succ k ih =>
    intro as h
    cases as with
    | nil => rfl
    | cons p as => rw [mrg, ih as (by simpa using h)]

theorem mrg_nil_left (f : Int → Int → Int) : ∀ (k : Nat) (bs : List (Int × Int)), bs.length ≤ k → mrg f k [] bs = bs := by
  intro k
  induction k with
  | zero => intro bs h; obtain rfl : bs = [] := List.eq_nil_of_length_eq_zero (by omega)
            rfl
  | succ k ih =>
    intro bs h
    cases bs with
    | nil => rfl
    | cons p bs => rw [mrg, ih bs (by simpa using h)]

def Inc (ws : List (Int × Int)) : Prop := ws.Pairwise (fun a b => a.1 < b.1)

theorem Inc.tail {p : Int × Int} {ws : List (Int × Int)} (h : Inc (p :: ws)) : Inc ws := (List.pairwise_cons.1 h).2
theorem Inc.head {p : Int × Int} {ws : List (Int × Int)} (h : Inc (p :: ws)) : ∀ q ∈ ws, p.1 < q.1 := (List.pairwise_cons.1 h).1

/-- Each number of the merge is a number of one of the two. -/
theorem mrg_num (f : Int → Int → Int) : ∀ (k : Nat) (as bs : List (Int × Int)), ∀ r ∈ mrg f k as bs, (∃ p ∈ as, p.1 = r.1) ∨ (∃ q ∈ bs, q.1 = r.1) := by
  intro k
  induction k with
  | zero => intro as bs r hr; simp [mrg] at hr
  | succ k ih =>
    intro as bs r hr
    cases as with
    | nil =>
      cases bs with
      | nil => simp [mrg] at hr
      | cons q bs =>
        rw [mrg, List.mem_cons] at hr
        rcases hr with rfl | hr
        · exact .inr ⟨r, by simp, rfl⟩
        · rcases ih _ _ r hr with ⟨p, hp, _⟩ | ⟨q', hq, e⟩
          · simp at hp
          · exact .inr ⟨q', by simp [hq], e⟩
    | cons p as =>
      cases bs with
      | nil =>
        rw [mrg, List.mem_cons] at hr
        rcases hr with rfl | hr
        · exact .inl ⟨r, by simp, rfl⟩
        · rcases ih _ _ r hr with ⟨p', hp, e⟩ | ⟨q', hq, _⟩
          · exact .inl ⟨p', by simp [hp], e⟩
          · simp at hq
      | cons q bs =>
        rw [mrg] at hr
        split at hr
        · rw [List.mem_cons] at hr
          rcases hr with rfl | hr
          · exact .inl ⟨r, by simp, rfl⟩
          · rcases ih _ _ r hr with ⟨p', hp, e⟩ | ⟨q', hq, e⟩
            · exact .inl ⟨p', by simp [hp], e⟩
            · exact .inr ⟨q', hq, e⟩
        · split at hr
          · rw [List.mem_cons] at hr
            rcases hr with rfl | hr
            · exact .inr ⟨r, by simp, rfl⟩
            · rcases ih _ _ r hr with ⟨p', hp, e⟩ | ⟨q', hq, e⟩
              · exact .inl ⟨p', hp, e⟩
              · exact .inr ⟨q', by simp [hq], e⟩
          · rw [List.mem_cons] at hr
            rcases hr with rfl | hr
            · exact .inl ⟨p, by simp, rfl⟩
            · rcases ih _ _ r hr with ⟨p', hp, e⟩ | ⟨q', hq, e⟩
              · exact .inl ⟨p', by simp [hp], e⟩
              · exact .inr ⟨q', by simp [hq], e⟩

/-- The merge of increasing lists is increasing. -/
theorem mrg_inc (f : Int → Int → Int) : ∀ (k : Nat) (as bs : List (Int × Int)), Inc as → Inc bs → Inc (mrg f k as bs) := by
  intro k
  induction k with
  | zero => intro as bs _ _; simp [mrg, Inc]
  | succ k ih =>
    intro as bs ha hb
    cases as with
    | nil =>
      cases bs with
      | nil => simp [mrg, Inc]
      | cons q bs =>
        rw [mrg]
        refine List.pairwise_cons.2 ⟨fun r hr => ?_, ih _ _ ha hb.tail⟩
        rcases mrg_num f k _ _ r hr with ⟨p', hp, _⟩ | ⟨q', hq, e⟩
        · simp at hp
        · rw [← e]; exact hb.head q' hq
    | cons p as =>
      cases bs with
      | nil =>
        rw [mrg]
        refine List.pairwise_cons.2 ⟨fun r hr => ?_, ih _ _ ha.tail hb⟩
        rcases mrg_num f k _ _ r hr with ⟨p', hp, e⟩ | ⟨q', hq, _⟩
        · rw [← e]; exact ha.head p' hp
        · simp at hq
      | cons q bs =>
        rw [mrg]
        split
        · rename_i hlt
          refine List.pairwise_cons.2 ⟨fun r hr => ?_, ih _ _ ha.tail hb⟩
          rcases mrg_num f k _ _ r hr with ⟨p', hp, e⟩ | ⟨q', hq, e⟩
          · rw [← e]; exact ha.head p' hp
          · rw [← e]
            rcases List.mem_cons.1 hq with rfl | hq
            · exact hlt
            · have := hb.head q' hq; omega
        · split
          · rename_i _ hlt
            refine List.pairwise_cons.2 ⟨fun r hr => ?_, ih _ _ ha hb.tail⟩
            rcases mrg_num f k _ _ r hr with ⟨p', hp, e⟩ | ⟨q', hq, e⟩
            · rw [← e]
              rcases List.mem_cons.1 hp with rfl | hp
              · exact hlt
              · have := ha.head p' hp; omega
            · rw [← e]; exact hb.head q' hq
          · rename_i h1 h2
            refine List.pairwise_cons.2 ⟨fun r hr => ?_, ih _ _ ha.tail hb.tail⟩
            show p.1 < r.1
            rcases mrg_num f k _ _ r hr with ⟨p', hp, e⟩ | ⟨q', hq, e⟩
            · rw [← e]; exact ha.head p' hp
            · rw [← e]; have := hb.head q' hq; omega

end Go.Proofs.Qxb6600284a
