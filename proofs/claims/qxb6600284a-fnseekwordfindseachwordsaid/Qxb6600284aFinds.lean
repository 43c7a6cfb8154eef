/- FnSeekWordFindsEachWord: the walk. -/
import Derived.Test.Qxb6600284aSeek
import Derived.Test.Qxb6600284aWords
namespace Go.Proofs.Qxb6600284a
open Go.RowKit

theorem bytes17_ok (a : Option Addr) (n cap : Nat) (w : World) (hn : n ≤ 1048576) :
    Calls Try.prog 17 #[.slice a n cap] w fun e w' => e = .returned (.bool true) ∧ w' = w := by
  go_enter Try.func17, Try.ntmps17
  go_wp2
  go_ret
  exact ⟨rfl, rfl⟩

theorem finds_big (a : Option Addr) (n cap : Nat) (w : World) (hm : n ≤ maxLen) (hn : 131072 < n) :
    Calls Try.prog 5 #[.slice a n cap] w fun e w' => e = .returned (.bool true) ∧ Below w.heap.size w w' := by
  unfold maxLen at hm
  by_cases h : n ≤ 1048576
  · go_enter Try.func5, Try.ntmps5
    go_wp2
    go_ret
    exact ⟨rfl, Below.refl _ _⟩
  · go_enter Try.func5, Try.ntmps5
    go_wp2
    go_ret
    exact ⟨rfl, Below.refl _ _⟩

theorem Strict.nonDec {n : Nat} {z : Nat → Int} (h : Strict n z) : NonDec n z := fun j hj => Int.le_of_lt (h j hj)

theorem Strict.lt {n : Nat} {z : Nat → Int} (h : Strict n z) (i j : Nat) (hij : i < j) (hj : j < n) : z i < z j :=
  Int.lt_of_lt_of_le (h i (by omega)) (h.nonDec.le (i + 1) j (by omega) hj)

theorem place_eq {n k p : Nat} {z : Nat → Int} (hs : Strict n z) (hk : k < n) (hp : Place n z (z k) p) : p = k := by
  rcases Nat.lt_trichotomy p k with h | h | h
  · have h1 := hp.2.2 p (Nat.le_refl _) (by omega)
    have h2 := hs.lt p k h hk
    omega
  · exact h
  · have := hp.2.1 k h; omega

set_option maxHeartbeats 1000000 in
theorem finds_walk {a : Option Addr} {n : Nat} {z : Nat → Int} (cap : Nat) (w : World) (hn : n ≤ 131072) (hr : Reads .i64 w a n z) :
    Calls Try.prog 5 #[.slice a n cap] w fun e w' => e = .returned (.bool true) ∧ Below w.heap.size w w' := by
  go_enter Try.func5, Try.ntmps5
  go_wp2_with fail
  refine (bytes17_ok a n cap w (by omega)).mono ?_
  rintro e w ⟨rfl, rfl⟩
  go_wp2_with fail
  refine (strict_any cap w (by omega) hr).mono ?_
  rintro e w1 ⟨r, rfl, hr1, m, rfl⟩
  cases r with
  | false =>
    clear hr1
    go_wp2
    go_ret
    exact ⟨rfl, below_N _ _⟩
  | true =>
    have HS : Hid (Strict n z) := hr1.1 rfl
    clear hr1
    go_wp2_with fail
    refine (cloneInts_any cap (w.drewN m) (by omega) (hr.drewN m)).mono ?_
    rintro e w2 ⟨a2, rfl, hr2, hb2⟩
    have HB2 : Hid (Below w.heap.size w w2) := (below_N w m).trans hb2
    clear hb2 hr
    go_wp2_with fail
    refine (words_any n w2 (by omega) hr2).mono ?_
    rintro e w3 ⟨a3, rfl, hw3, hb3⟩
    have hr3 := hr2.below hb3
    have HB3 : Hid (Below w.heap.size w w3) := HB2.out.trans (hb3.mono HB2.out.size)
    clear hb3 hr2 HB2
    go_wp2
    go_loopw [4] (fun i wr => ∃ k m : Nat, k ≤ n ∧ i = .int .i64 k ∧ wr = w3.drewN m) (fun i _ => n - (intOf i).toNat)
    case atStart => exact ⟨0, 0, Nat.zero_le _, rfl, rfl⟩
    case round =>
      obtain ⟨k, m5, hk, rfl, rfl⟩ := hrel
      by_cases hlt : k < n
      · rcases hr3 with h0 | ⟨b, o, rfl, hc⟩
        · omega
        have ck := hc k hlt
        clear hc
        go_wp2_with fail
        refine (zseek_any n (z k) (w3.drewN m5) (by omega) HS.out.nonDec (hw3.drewN m5)).mono ?_
        rintro e w4 ⟨p, f, hp, hf, rfl, m4, rfl⟩
        obtain rfl : p = k := place_eq HS.out hlt hp
        obtain rfl : f = true := hf.2 ⟨hlt, rfl⟩
        clear hp hf
        go_wp2
        go_roundw
        case rel => exact ⟨p + 1, m5 + m4, by omega, by go_num, by first | rfl | rw [World.drewN_drewN]⟩
        case measure => simp [intOf]; omega
      · go_wp2
        go_ret
        exact ⟨rfl, below_drewN HB3.out _⟩
end Go.Proofs.Qxb6600284a
