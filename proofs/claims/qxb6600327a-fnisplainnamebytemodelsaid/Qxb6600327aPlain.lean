/- isPlainName, plainByte and the law over them: the walks. -/
import Derived.Test.Qxb6600327aRows
import Derived.WalkKit
import Derived.ProofKit
import Derived.WalkSmall
import Derived.BigQuiet
import Derived.Lib.OthersKept
namespace Go.Proofs.Qxb6600327a
open Go.RowKit

/-- An ASCII letter, a digit, '-' or '_'. -/
def PlainN (c : Nat) : Prop := (97 ≤ c ∧ c ≤ 122) ∨ (65 ≤ c ∧ c ≤ 90) ∨ (48 ≤ c ∧ c ≤ 57) ∨ c = 45 ∨ c = 95

theorem fold_ascii : ∀ b : Nat, b < 256 → (97 ≤ (b ||| 32) ∧ (b ||| 32) ≤ 122 ↔ (97 ≤ b ∧ b ≤ 122) ∨ (65 ≤ b ∧ b ≤ 90)) := by decide +kernel

theorem plainByte_yes (b : Nat) (hb : b < 256) (w : World) (hp : PlainN b) :
    Calls Try.prog 23 #[.int .u8 b] w fun e w' => e = .returned (.bool true) ∧ w' = w := by
  have h1 := fold_ascii b hb
  have h2 : bits .or .u8 (b : Int) 32 = ((b ||| 32 : Nat) : Int) := u8_or_nat b 32 hb (by omega)
  obtain ⟨t, ht⟩ : ∃ t, t = b ||| 32 := ⟨_, rfl⟩
  rw [← ht] at h1 h2
  clear ht
  unfold PlainN at hp
  by_cases hl : 97 ≤ t ∧ t ≤ 122
  · obtain ⟨hl1, hl2⟩ := hl
    clear h1 hp
    go_enter Try.func23, Try.ntmps23
    go_wp2
    go_ret
    exact ⟨rfl, rfl⟩
  · have hlb : ¬ ((97 ≤ b ∧ b ≤ 122) ∨ (65 ≤ b ∧ b ≤ 90)) := fun h => hl (h1.2 h)
    rcases (show t < 97 ∨ 122 < t by omega) with ht | ht
    all_goals
      rcases (show (48 ≤ b ∧ b ≤ 57) ∨ b = 45 ∨ b = 95 by omega) with ⟨k1, k2⟩ | rfl | rfl
      all_goals
        clear h1 hp hl hlb
        go_enter Try.func23, Try.ntmps23
        go_wp2
        go_ret
        exact ⟨rfl, rfl⟩

theorem plainByte_no (b : Nat) (hb : b < 256) (w : World) (hp : ¬ PlainN b) :
    Calls Try.prog 23 #[.int .u8 b] w fun e w' => e = .returned (.bool false) ∧ w' = w := by
  have h1 := fold_ascii b hb
  have h2 : bits .or .u8 (b : Int) 32 = ((b ||| 32 : Nat) : Int) := u8_or_nat b 32 hb (by omega)
  obtain ⟨t, ht⟩ : ∃ t, t = b ||| 32 := ⟨_, rfl⟩
  rw [← ht] at h1 h2
  clear ht
  unfold PlainN at hp
  have hl : ¬ (97 ≤ t ∧ t ≤ 122) := fun h => hp (by have := h1.1 h; omega)
  have k1 : ((b : Int) == 45) = false := by simp; omega
  have k2 : ((b : Int) == 95) = false := by simp; omega
  rcases (show t < 97 ∨ 122 < t by omega) with ht | ht
  all_goals
    rcases (show b < 48 ∨ 57 < b by omega) with hk | hk
    all_goals
      clear h1 hp hl
      go_enter Try.func23, Try.ntmps23
      go_wp2
      go_ret
      exact ⟨rfl, rfl⟩

/-- The post of isPlainName, kept from the walk. -/
def PlainPost (s : ByteArray) (w : World) (e : Ending) (w' : World) : Prop := ∃ r : Bool, (r = true ↔ 0 < s.size ∧ ∀ i (h : i < s.size), PlainN (s[i]'h).toNat) ∧ e = .returned (.bool r) ∧ Below w.heap.size w w'
theorem PlainPost.no {s : ByteArray} {w w' : World} (i : Nat) (h : i < s.size) (hn : ¬ PlainN (s[i]'h).toNat) (hb : Below w.heap.size w w') : PlainPost s w (.returned (.bool false)) w' :=
  ⟨false, ⟨fun e => by simp at e, fun e => absurd (e.2 i h) hn⟩, rfl, hb⟩
theorem PlainPost.yes {s : ByteArray} {w w' : World} (h0 : 0 < s.size) (h : ∀ i (h : i < s.size), PlainN (s[i]'h).toNat) (hb : Below w.heap.size w w') : PlainPost s w (.returned (.bool true)) w' :=
  ⟨true, ⟨fun _ => ⟨h0, h⟩, fun _ => rfl⟩, rfl, hb⟩
theorem PlainPost.empty {s : ByteArray} {w w' : World} (h0 : s.size = 0) (hb : Below w.heap.size w w') : PlainPost s w (.returned (.bool false)) w' :=
  ⟨false, ⟨fun e => by simp at e, fun e => absurd e.1 (by omega)⟩, rfl, hb⟩

theorem empty_iff (s : ByteArray) (h : 0 < s.size) : s.toList.isEmpty = false := by
  rw [ByteArray.toList_eq, List.isEmpty_eq_false_iff]
  intro e
  have : s.data.size = 0 := by rw [← Array.length_toList, e]; rfl
  have h2 : s.size = s.data.size := rfl
  omega
theorem empty_of (s : ByteArray) (h : s.size = 0) : s.toList.isEmpty = true := by
  rw [ByteArray.toList_eq, List.isEmpty_iff]
  apply List.eq_nil_of_length_eq_zero
  rw [Array.length_toList]
  exact h

theorem below_iter (w : World) (s : ByteArray) (pos : Nat) : Below w.heap.size w (w.iter s pos) := (Below.refl _ _).alloc (Nat.le_refl _) _

set_option maxRecDepth 1000000 in
set_option maxHeartbeats 1000000 in
theorem isPlain_any (s : ByteArray) (w : World) (hsz : s.size ≤ 1048576) : Calls Try.prog 26 #[.string s] w (PlainPost s w) := by
  go_enter Try.func26, Try.ntmps26
  go_wp2
  go_loopw [2] (fun r w' => ∃ pos, pos ≤ s.size ∧ r = .bool false ∧ w' = w.iter s pos ∧ Hid (∀ i (h : i < s.size), i < pos → PlainN (s[i]'h).toNat)) (fun _ w' => s.size - w'.iterPos w.heap.size)
  case atStart => exact ⟨0, Nat.zero_le _, rfl, rfl, fun i _ h => by omega⟩
  case round =>
    obtain ⟨pos, hpos, rfl, rfl, HP⟩ := hrel
    by_cases hp : pos < s.size
    · by_cases ha : (s[pos]'hp).toNat < 128
      · have hnx : ∀ ty, (Instr.next (.pointer (some ⟨w.heap.size, 0, none⟩)) true ty).run Try.prog (w.iter s pos) = _ := fun ty => run_next_ascii w s pos ty hp ha
        have HPC : Hid (∀ c, c = (s[pos]'hp).toNat → (PlainN c ↔ PlainN (s[pos]'hp).toNat)) := fun c hc => by rw [hc]
        obtain ⟨c, hc⟩ : ∃ c, c = (s[pos]'hp).toNat := ⟨_, rfl⟩
        rw [← hc] at hnx ha
        have HC : Hid (PlainN c ↔ PlainN (s[pos]'hp).toNat) := HPC.out c hc
        clear hc HPC
        by_cases hpl : PlainN c
        · have HN : Hid (∀ i (h : i < s.size), i < pos + 1 → PlainN (s[i]'h).toNat) := fun i h hi => by
            by_cases e : i < pos
            · exact HP.out i h e
            · obtain rfl : i = pos := by omega
              exact HC.out.1 hpl
          unfold PlainN at hpl
          rcases (show (97 ≤ c ∧ c ≤ 122) ∨ (65 ≤ c ∧ c ≤ 90) ∨ (48 ≤ c ∧ c ≤ 57) ∨ c = 45 ∨ c = 95 from hpl) with ⟨k1, k2⟩ | ⟨k1, k2⟩ | ⟨k1, k2⟩ | rfl | rfl
          all_goals
            clear hpl HP HC
            go_wp2
            go_roundw
            case rel => exact ⟨pos + 1, by omega, rfl, rfl, HN⟩
            case measure => simp; omega
        · have hq := hpl
          unfold PlainN at hq
          have k1 : ((c : Int) == 45) = false := by simp; omega
          have k2 : ((c : Int) == 95) = false := by simp; omega
          rcases (show 122 < c ∨ (90 < c ∧ c < 97) ∨ (57 < c ∧ c < 65) ∨ c < 48 by omega) with k3 | ⟨k3, k4⟩ | ⟨k3, k4⟩ | k3
          all_goals
            clear hq
            go_wp2
            go_ret
            exact PlainPost.no pos hp (fun h => hpl (HC.out.2 h)) (below_iter w s _)
      · have hd := decode_high s pos hp (by omega)
        have hle := decode_le s pos
        have hnx : ∀ ty, (Instr.next (.pointer (some ⟨w.heap.size, 0, none⟩)) true ty).run Try.prog (w.iter s pos) = _ := fun ty => run_next_any w s pos ty hp
        obtain ⟨d, hdd⟩ : ∃ d, d = (Utf8.decode s pos).1 := ⟨_, rfl⟩
        obtain ⟨d2, hdd2⟩ : ∃ d2, d2 = (Utf8.decode s pos).2 := ⟨_, rfl⟩
        rw [← hdd, ← hdd2] at hnx
        rw [← hdd] at hd hle
        have hd1 := hd.1
        have k1 : ((d : Int) == 45) = false := by simp; omega
        have k2 : ((d : Int) == 95) = false := by simp; omega
        have HNP : Hid (¬ PlainN (s[pos]'hp).toNat) := fun h => by unfold PlainN at h; omega
        clear hdd hdd2 hd ha
        go_wp2
        go_ret
        exact PlainPost.no pos hp HNP.out (below_iter w s _)
    · have hnx : ∀ ty, (Instr.next (.pointer (some ⟨w.heap.size, 0, none⟩)) true ty).run Try.prog (w.iter s pos) = _ := fun ty => run_next_end w s pos ty hp
      have HN : Hid (∀ i (h : i < s.size), PlainN (s[i]'h).toNat) := fun i h => HP.out i h (by omega)
      by_cases h0 : s.size = 0
      · have he := empty_of s h0
        have H0 : Hid (s.size = 0) := h0
        clear h0
        go_wp2
        go_ret
        exact PlainPost.empty H0.out (below_iter w s _)
      · have he := empty_iff s (by omega)
        go_wp2
        go_ret
        exact PlainPost.yes (by omega) HN.out (below_iter w s _)

theorem zPlain_any (s : ByteArray) (w : World) (hsz : s.size ≤ 1048576) : Calls Try.prog 24 #[.string s] w (PlainPost s w) := by
  go_enter Try.func24, Try.ntmps24
  go_wp2_with fail
  refine (isPlain_any s w hsz).mono ?_
  rintro e w1 ⟨r, hr, rfl, hb⟩
  have HR : Hid (r = true ↔ 0 < s.size ∧ ∀ i (h : i < s.size), PlainN (s[i]'h).toNat) := hr
  clear hr
  go_wp2
  go_ret
  exact ⟨r, HR.out, rfl, hb⟩

theorem bytes22_ok (s : ByteArray) (w : World) (hsz : s.size ≤ 1048576) : Calls Try.prog 22 #[.string s] w fun e w' => e = .returned (.bool true) ∧ w' = w := by
  go_enter Try.func22, Try.ntmps22
  go_wp2
  go_ret
  exact ⟨rfl, rfl⟩

theorem plain_big (s : ByteArray) (w : World) (hs : s.size ≤ maxLen) (hsz : 1048576 < s.size) : Calls Try.prog 7 #[.string s] w fun e w' => e = .returned (.bool true) ∧ Below w.heap.size w w' := by
  unfold maxLen at hs
  go_enter Try.func7, Try.ntmps7
  go_wp2
  go_ret
  exact ⟨rfl, Below.refl _ _⟩

/-- What is left of the law behind its loop. -/
theorem plain_end {s : ByteArray} {r : Bool} (hr : r = true ↔ 0 < s.size ∧ ∀ i (h : i < s.size), PlainN (s[i]'h).toNat) (q : Bool) (hq : q = true ↔ 0 < s.size ∧ ∀ i (h : i < s.size), PlainN (s[i]'h).toNat) : r = q := by
  rw [Bool.eq_iff_iff, hr, hq]

set_option maxRecDepth 1000000 in
set_option maxHeartbeats 1000000 in
theorem plain_walk (s : ByteArray) (w : World) (hsz : s.size ≤ 1048576) : Calls Try.prog 7 #[.string s] w fun e w' => e = .returned (.bool true) ∧ Below w.heap.size w w' := by
  obtain ⟨ne, HNE, hne⟩ : ∃ ne : Bool, Hid (ne = true ↔ 0 < s.size) ∧ (!s.toList.isEmpty) = ne := by
    by_cases h0 : s.size = 0
    · exact ⟨false, ⟨fun e => by simp at e, fun e => by omega⟩, by rw [empty_of s h0]; rfl⟩
    · exact ⟨true, ⟨fun _ => by omega, fun _ => rfl⟩, by rw [empty_iff s (by omega)]; rfl⟩
  go_enter Try.func7, Try.ntmps7
  go_wp2_with fail
  refine (bytes22_ok s w hsz).mono ?_
  rintro e w ⟨rfl, rfl⟩
  go_wp2
  go_loop [3, 4] (fun wa i => ∃ k : Nat, k ≤ s.size ∧ i = .int .i64 k ∧ wa = .bool ne ∧ Hid (∀ i (h : i < s.size), i < k → PlainN (s[i]'h).toNat)) (fun _ i => s.size - (intOf i).toNat)
  case atStart => exact ⟨0, Nat.zero_le _, rfl, rfl, fun i _ h => by omega⟩
  case round =>
    obtain ⟨k, hk, rfl, rfl, HP⟩ := hrel
    clear hne
    by_cases hlt : k < s.size
    · have hb := (s[k]'hlt).toNat_lt
      by_cases hpl : PlainN (s[k]'hlt).toNat
      · have HN : Hid (∀ i (h : i < s.size), i < k + 1 → PlainN (s[i]'h).toNat) := fun i h hi => by
          by_cases e : i < k
          · exact HP.out i h e
          · obtain rfl : i = k := by omega
            exact hpl
        have HPL : Hid (PlainN (s[k]'hlt).toNat) := hpl
        clear hpl
        go_wp2_with fail
        refine (plainByte_yes _ (by exact hb) w HPL.out).mono ?_
        rintro e w ⟨rfl, rfl⟩
        go_wp2
        go_round
        case rel => exact ⟨k + 1, by omega, by go_num, rfl, HN⟩
        case measure => simp [intOf]; omega
      · have HPL : Hid (¬ PlainN (s[k]'hlt).toNat) := hpl
        clear hpl
        go_wp2_with fail
        refine (plainByte_no _ (by exact hb) w HPL.out).mono ?_
        rintro e w ⟨rfl, rfl⟩
        go_wp2_with fail
        refine (zPlain_any s w hsz).mono ?_
        rintro e w1 ⟨r, hr, rfl, hbe⟩
        obtain rfl : r = false := by
          cases r
          · rfl
          · exact absurd ((hr.1 rfl).2 k hlt) HPL.out
        clear hr
        go_wp2
        go_ret
        exact ⟨rfl, hbe⟩
    · have HN : Hid (ne = true ↔ 0 < s.size ∧ ∀ i (h : i < s.size), PlainN (s[i]'h).toNat) :=
        ⟨fun e => ⟨HNE.out.1 e, fun i h => HP.out i h (by omega)⟩, fun e => HNE.out.2 e.1⟩
      go_wp2_with fail
      refine (zPlain_any s w hsz).mono ?_
      rintro e w1 ⟨r, hr, rfl, hbe⟩
      obtain rfl : r = ne := plain_end hr ne HN.out
      clear hr
      cases r
      all_goals
        go_wp2
        go_ret
        exact ⟨rfl, hbe⟩

end Go.Proofs.Qxb6600327a
