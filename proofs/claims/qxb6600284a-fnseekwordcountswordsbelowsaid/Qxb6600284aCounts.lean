/- FnSeekWordCountsWordsBelow: the walk. -/
import Derived.Test.Qxb6600284aSeek
import Derived.Test.Qxb6600284aWords
namespace Go.Proofs.Qxb6600284a
open Go.RowKit

theorem bytes11_ok (a : Option Addr) (n cap : Nat) (x : Int) (w : World) (hn : n ≤ 1048576) :
    Calls Try.prog 11 #[.slice a n cap, .int .i64 x] w fun e w' => e = .returned (.bool true) ∧ w' = w := by
  go_enter Try.func11, Try.ntmps11
  go_wp2
  go_ret
  exact ⟨rfl, rfl⟩

theorem counts_big (a : Option Addr) (n cap : Nat) (x : Int) (w : World) (hm : n ≤ maxLen) (hn : 131072 < n) :
    Calls Try.prog 3 #[.slice a n cap, .int .i64 x] w fun e w' => e = .returned (.bool true) ∧ Below w.heap.size w w' := by
  unfold maxLen at hm
  by_cases h : n ≤ 1048576
  · go_enter Try.func3, Try.ntmps3
    go_wp2
    go_ret
    exact ⟨rfl, Below.refl _ _⟩
  · go_enter Try.func3, Try.ntmps3
    go_wp2
    go_ret
    exact ⟨rfl, Below.refl _ _⟩

theorem present_step {n k p : Nat} {z : Nat → Int} {x : Int} (hs : NonDec n z) (hp : Place n z x p) (hk : k < n) :
    (decide (p < k ∧ z p = x) || (z k == x)) = decide (p < k + 1 ∧ z p = x) := by
  rw [Bool.eq_iff_iff]
  simp only [Bool.or_eq_true, decide_eq_true_eq, beq_iff_eq]
  constructor
  · rintro (⟨h1, h2⟩ | h)
    · exact ⟨by omega, h2⟩
    · have hpk : p ≤ k := by
        by_cases e : k < p
        · have := hp.2.1 k e; omega
        · omega
      have h1 := hs.le p k hpk hk
      have h2 := hp.2.2 p (Nat.le_refl _) (by omega)
      exact ⟨by omega, by omega⟩
  · rintro ⟨h1, h2⟩
    by_cases e : p < k
    · exact .inl ⟨e, h2⟩
    · obtain rfl : p = k := by omega
      exact .inr h2

theorem below_step {n k p : Nat} {z : Nat → Int} {x : Int} (hp : Place n z x p) (hk : k < n) : (z k < x → min (k + 1) p = min k p + 1) ∧ (x ≤ z k → min (k + 1) p = min k p) := by
  constructor
  · intro h
    have : k < p := by
      by_cases e : k < p
      · exact e
      · have := hp.2.2 k (by omega) hk; omega
    omega
  · intro h
    have : p ≤ k := by
      by_cases e : k < p
      · have := hp.2.1 k e; omega
      · omega
    omega

set_option maxHeartbeats 1000000 in
theorem counts_walk {a : Option Addr} {n : Nat} {z : Nat → Int} (cap : Nat) (x : Int) (w : World) (hn : n ≤ 131072) (hr : Reads .i64 w a n z) :
    Calls Try.prog 3 #[.slice a n cap, .int .i64 x] w fun e w' => e = .returned (.bool true) ∧ Below w.heap.size w w' := by
  go_enter Try.func3, Try.ntmps3
  go_wp2_with fail
  refine (bytes11_ok a n cap x w (by omega)).mono ?_
  rintro e w ⟨rfl, rfl⟩
  go_wp2_with fail
  refine (nondec_any cap w (by omega) hr).mono ?_
  rintro e w1 ⟨r, rfl, hr1, m, rfl⟩
  cases r with
  | false =>
    clear hr1
    go_wp2
    go_ret
    exact ⟨rfl, below_N _ _⟩
  | true =>
    have HS : Hid (NonDec n z) := hr1 rfl
    clear hr1
    go_wp2_with fail
    refine (cloneInts_any cap (w.drewN m) (by omega) (hr.drewN m)).mono ?_
    rintro e w2 ⟨a2, rfl, hr2, hb2⟩
    have HB2 : Hid (Below w.heap.size w w2) := (below_N w m).trans hb2
    clear hb2 hr
    go_wp2_with fail
    refine (words_any n w2 (by omega) hr2).mono ?_
    rintro e w3 ⟨a3, rfl, hw3, hb3⟩
    have hr3 := hr2.below hb3
    have HB3 : Hid (Below w.heap.size w w3) := HB2.out.trans (hb3.mono HB2.out.size)
    clear hb3 hr2 HB2
    go_wp2_with fail
    refine (zseek_any n x w3 (by omega) HS.out hw3).mono ?_
    rintro e w4 ⟨p, f, hp, hf, rfl, m4, rfl⟩
    have HP : Hid (Place n z x p ∧ (f = true ↔ p < n ∧ z p = x)) := ⟨hp, hf⟩
    have hr4 := hr3.drewN m4
    have HB4 : Hid (Below w.heap.size w (w3.drewN m4)) := below_drewN HB3.out m4
    clear hp hf hw3 hr3 HB3
    go_wp2
    go_loop [8, 9, 10] (fun be pr i => ∃ (k c : Nat) (q : Bool), k ≤ n ∧ c ≤ k ∧ i = .int .i64 k ∧ be = .int .i64 c ∧ pr = .bool q ∧ Hid (c = min k p) ∧ Hid (q = decide (p < k ∧ z p = x))) (fun _ _ i => n - (intOf i).toNat)
    case atStart => exact ⟨0, 0, false, Nat.zero_le _, Nat.le_refl _, rfl, rfl, rfl, (by simp : 0 = min 0 p), (by simp : false = decide (p < 0 ∧ z p = x))⟩
    case round =>
      obtain ⟨k, c, q, hk, hck, rfl, rfl, rfl, HC, HQ⟩ := hrel
      by_cases hlt : k < n
      · rcases hr4 with h0 | ⟨b, o, rfl, hc⟩
        · omega
        have ck := hc k hlt
        have HB := below_step HP.out.1 hlt
        have HB' : Hid ((z k < x → min (k + 1) p = min k p + 1) ∧ (x ≤ z k → min (k + 1) p = min k p)) := HB
        have HQ' : Hid ((decide (p < k ∧ z p = x) || (z k == x)) = decide (p < k + 1 ∧ z p = x)) := present_step HS.out HP.out.1 hlt
        clear hc HB
        go_wp2
        · have hx : z k < x := by assumption
          have he : (z k == x) = false := by assumption
          go_round
          case rel => exact ⟨k + 1, c + 1, q, by omega, by omega, by go_num, by go_num, rfl, (by rw [HB'.out.1 hx, HC.out] : c + 1 = min (k + 1) p), (by rw [← HQ'.out, he, Bool.or_false]; exact HQ.out : q = decide (p < k + 1 ∧ z p = x))⟩
          case measure => simp [intOf]; omega
        · have hx : x ≤ z k := by assumption
          have he : (z k == x) = true := by assumption
          go_round
          case rel => exact ⟨k + 1, c, true, by omega, by omega, by go_num, rfl, rfl, (by rw [HB'.out.2 hx, HC.out] : c = min (k + 1) p), (by rw [← HQ'.out, he, Bool.or_true] : true = decide (p < k + 1 ∧ z p = x))⟩
          case measure => simp [intOf]; omega
        · have hx : x ≤ z k := by assumption
          have he : (z k == x) = false := by assumption
          go_round
          case rel => exact ⟨k + 1, c, q, by omega, by omega, by go_num, rfl, rfl, (by rw [HB'.out.2 hx, HC.out] : c = min (k + 1) p), (by rw [← HQ'.out, he, Bool.or_false]; exact HQ.out : q = decide (p < k + 1 ∧ z p = x))⟩
          case measure => simp [intOf]; omega
      · obtain rfl : c = p := by
          have h1 := HC.out
          have h2 := HP.out.1.1
          omega
        obtain rfl : q = f := by
          rw [Bool.eq_iff_iff, HP.out.2, HQ.out, decide_eq_true_iff, show k = n by omega]
        clear HP HC HQ
        cases q
        all_goals
          go_wp2
          go_ret
          exact ⟨rfl, HB4.out⟩
end Go.Proofs.Qxb6600284a
