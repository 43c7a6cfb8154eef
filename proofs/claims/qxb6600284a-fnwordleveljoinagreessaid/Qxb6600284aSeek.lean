/- seekWord: its contract. -/
import Derived.Test.Qxb6600284aSorted
namespace Go.Proofs.Qxb6600284a
open Go.RowKit

theorem NonDec.le {n : Nat} {z : Nat → Int} (h : NonDec n z) : ∀ i j, i ≤ j → j < n → z i ≤ z j := by
  intro i j hij
  induction j with
  | zero => intro _; obtain rfl : i = 0 := by omega
            exact Int.le_refl _
  | succ j ih =>
    intro hj
    by_cases e : i = j + 1
    · subst e; exact Int.le_refl _
    · exact Int.le_trans (ih (by omega) (by omega)) (h j hj)

/-- What seekWord's first answer is: the place of the first word that is not below x. -/
def Place (n : Nat) (z : Nat → Int) (x : Int) (p : Nat) : Prop := p ≤ n ∧ (∀ i, i < p → z i < x) ∧ (∀ i, p ≤ i → i < n → x ≤ z i)

set_option maxHeartbeats 1000000 in
theorem seek_some (b o n cap : Nat) (z y : Nat → Int) (x : Int) (w : World) (hn1 : 1 ≤ n) (hn : n ≤ 1048576) (hs : NonDec n z)
    (hc : ∀ i, i < n → w.cell? ⟨b, o + i * 2, none⟩ = some (.int .i64 (z i)) ∧ w.cell? ⟨b, o + i * 2 + 1, none⟩ = some (.int .u64 (y i))) :
    Calls Try.prog 33 #[.slice (some ⟨b, o, none⟩) n cap, .int .i64 x] w fun e w' => ∃ p : Nat, Place n z x p ∧ e = .returned (.tuple #[.int .i64 p, .bool (decide (p < n ∧ z p = x))]) ∧ ∃ m, w' = w.drewN m := by
  have c0 : w.cell? ⟨b, o, none⟩ = some (.int .i64 (z 0)) := by simpa using (hc 0 (by omega)).1
  by_cases h0 : x ≤ z 0
  · have hp : Place n z x 0 := ⟨Nat.zero_le _, fun i hi => by omega, fun i _ hi => Int.le_trans h0 (hs.le 0 i (Nat.zero_le _) hi)⟩
    have HP : Hid (Place n z x 0) := hp
    clear hp hs hc
    have hn1' : (0 : Int) < (n : Int) := by omega
    go_enter Try.func33, Try.ntmps33
    go_wp2
    go_quiet (fail)
    go_wp2
    go_ret2
    refine ⟨0, HP.out, ?_, _, rfl⟩
    have e : (z 0 == x) = decide (0 < n ∧ z 0 = x) := by
      rw [Bool.eq_iff_iff]; simp; omega
    show Ending.returned (Value.tuple #[.int .i64 0, .bool (z 0 == x)]) = _
    rw [e]; rfl
  · have h0' : z 0 < x := by omega
    clear h0
    have HS : Hid (NonDec n z) := hs
    clear hs
    have hn1' : ((n : Int) == 0) = false := by simp; omega
    have h0d : decide (x ≤ z 0) = false := by simp; omega
    go_enter Try.func33, Try.ntmps33
    go_wp2
    go_loop [6, 7] (fun lo hi => ∃ l h : Nat, lo = .int .i64 l ∧ hi = .int .i64 h ∧ 1 ≤ l ∧ l ≤ h ∧ l ≤ n ∧ h ≤ 2 * n + 1 ∧ Hid (∀ i, i < l → z i < x)) (fun _ hi => 2 * n + 2 - (intOf hi).toNat)
    case atStart => exact ⟨1, 1, rfl, rfl, by omega, by omega, by omega, by omega, fun i hi => by obtain rfl : i = 0 := by omega
                                                                                                  exact h0'⟩
    case round =>
      obtain ⟨l, tt, rfl, rfl, hl1, hlh, hln, hh, HL⟩ := hrel
      by_cases hgo : tt < n ∧ z tt < x
      · obtain ⟨hlt, hx⟩ := hgo
        have ch := (hc tt hlt).1
        clear hc
        go_wp2
        go_round
        case rel => exact ⟨tt + 1, 2 * tt + 1, by go_num, by go_num, by omega, by omega, by omega, by omega, fun i hi => Int.lt_of_le_of_lt (HS.out.le i tt (by omega) hlt) hx⟩
        case measure => simp [intOf]; omega
      · have HX : Hid (∀ i, min tt n ≤ i → i < n → x ≤ z i) := fun i hi hin => by
          by_cases hlt : tt < n
          · have hx : x ≤ z tt := by omega
            exact Int.le_trans hx (HS.out.le tt i (by omega) hin)
          · omega
        rcases (show tt < n ∧ x ≤ z tt ∨ n ≤ tt from by omega) with ⟨hlt, hx⟩ | hge
        all_goals
          try have ch := (hc tt hlt).1
          clear hgo
          go_wp2
          all_goals
           go_loop [6, 8] (fun lo en => ∃ l e : Nat, lo = .int .i64 l ∧ en = .int .i64 e ∧ 1 ≤ l ∧ l ≤ e ∧ e ≤ n ∧ Hid (∀ i, i < l → z i < x) ∧ Hid (∀ i, e ≤ i → i < n → x ≤ z i)) (fun lo en => (intOf en).toNat - (intOf lo).toNat)
           case atStart => first | exact ⟨l, tt, rfl, rfl, hl1, hlh, by omega, HL, fun i hi => HX.out i (by omega)⟩ | exact ⟨l, n, rfl, rfl, hl1, hln, by omega, HL, fun i hi => HX.out i (by omega)⟩
           case round =>
             clear HL HX
             obtain ⟨l, e, rfl, rfl, hl1, hle, hen, HL, HX⟩ := hrel
             by_cases hlt : l < e
             · have cm := (hc ((l + e) / 2) (by omega)).1
               go_wp2
               · have hx2 : z ((l + e) / 2) < x := by assumption
                 go_round
                 case rel => exact ⟨(l + e) / 2 + 1, e, by go_num, rfl, by omega, by omega, hen, fun i hi => Int.lt_of_le_of_lt (HS.out.le i ((l + e) / 2) (by omega) (by omega)) hx2, HX⟩
                 case measure => simp [intOf]; omega
               · have hx2 : x ≤ z ((l + e) / 2) := by assumption
                 go_round
                 case rel => exact ⟨l, (l + e) / 2, rfl, by go_num, hl1, by omega, by omega, HL, fun i hi hin => Int.le_trans hx2 (HS.out.le ((l + e) / 2) i (by omega) hin)⟩
                 case measure => simp [intOf]; omega
             · obtain rfl : e = l := by omega
               have HP : Hid (Place n z x e) := ⟨hen, HL.out, HX.out⟩
               clear HL HX
               by_cases hln : e < n
               · have ce := (hc e hln).1
                 have hln' : (e : Int) < (n : Int) := by omega
                 clear hc
                 go_wp2
                 go_quiet (fail)
                 go_wp2
                 go_ret2
                 refine ⟨e, HP.out, ?_, _, rfl⟩
                 have e1 : (z e == x) = decide (e < n ∧ z e = x) := by
                   rw [Bool.eq_iff_iff]; simp; omega
                 show Ending.returned (Value.tuple #[.int .i64 e, .bool (z e == x)]) = _
                 rw [e1]
               · have hd : decide ((e : Int) < (n : Int)) = false := by simp; omega
                 clear hc
                 go_wp2
                 go_quiet (fail)
                 go_wp2
                 go_ret2
                 refine ⟨e, HP.out, ?_, _, rfl⟩
                 have e1 : false = decide (e < n ∧ z e = x) := by
                   symm; simp; omega
                 show Ending.returned (Value.tuple #[.int .i64 e, .bool false]) = _
                 rw [e1]
theorem seek_none (a : Option Addr) (cap : Nat) (x : Int) (w : World) :
    Calls Try.prog 33 #[.slice a 0 cap, .int .i64 x] w fun e w' => e = .returned (.tuple #[.int .i64 0, .bool false]) ∧ ∃ m, w' = w.drewN m := by
  go_enter Try.func33, Try.ntmps33
  go_wp2
  go_quiet (fail)
  go_wp2
  go_ret2
  exact ⟨rfl, _, rfl⟩

theorem seek_any {a : Option Addr} {n : Nat} {z y : Nat → Int} (cap : Nat) (x : Int) (w : World) (hn : n ≤ 1048576) (hs : NonDec n z) (hw : Words w a n z y) :
    Calls Try.prog 33 #[.slice a n cap, .int .i64 x] w fun e w' => ∃ (p : Nat) (f : Bool), Place n z x p ∧ (f = true ↔ p < n ∧ z p = x) ∧ e = .returned (.tuple #[.int .i64 p, .bool f]) ∧ ∃ m, w' = w.drewN m := by
  rcases hw with rfl | ⟨b, o, rfl, hc⟩
  · exact (seek_none a cap x w).mono fun e w' ⟨h1, h2⟩ => ⟨0, false, ⟨Nat.le_refl _, fun i hi => by omega, fun i _ hi => by omega⟩, by simp, h1, h2⟩
  · by_cases h0 : n = 0
    · subst h0
      exact (seek_none _ cap x w).mono fun e w' ⟨h1, h2⟩ => ⟨0, false, ⟨Nat.le_refl _, fun i hi => by omega, fun i _ hi => by omega⟩, by simp, h1, h2⟩
    · exact (seek_some b o n cap z y x w (by omega) hn hs hc).mono fun e w' ⟨p, h1, h2, h3⟩ => ⟨p, _, h1, by simp, h2, h3⟩

theorem zseek_any {a : Option Addr} {n : Nat} {z y : Nat → Int} (cap : Nat) (x : Int) (w : World) (hn : n ≤ 1048576) (hs : NonDec n z) (hw : Words w a n z y) :
    Calls Try.prog 15 #[.slice a n cap, .int .i64 x] w fun e w' => ∃ (p : Nat) (f : Bool), Place n z x p ∧ (f = true ↔ p < n ∧ z p = x) ∧ e = .returned (.tuple #[.int .i64 p, .bool f]) ∧ ∃ m, w' = w.drewN m := by
  go_enter Try.func15, Try.ntmps15
  go_wp2_with fail
  refine (seek_any cap x w hn hs hw).mono ?_
  rintro e w' ⟨p, f, hp, hf, rfl, m, rfl⟩
  have HP : Hid (Place n z x p ∧ (f = true ↔ p < n ∧ z p = x)) := ⟨hp, hf⟩
  clear hp hf
  go_wp2
  go_ret2
  exact ⟨p, f, HP.out.1, HP.out.2, rfl, m, rfl⟩

end Go.Proofs.Qxb6600284a
