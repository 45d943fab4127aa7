/-
  THE WALKS of headerDict (17), zzIsDictForm (11), zzIsPow2 (18), zzDictPred (12) and of FnHeaderDictLeastFormAtOrAbove (3).
-/
import Derived.Test.Qxb6000358aProg
import Derived.WalkKit
import Derived.Laws.BitsAllLaws
namespace Go.Proofs.Qxb6000358a
open Go.RowKit

/-! ### Plain facts on powers -/
theorem pow12 (i : Nat) (h : i ≤ 18) : (4096 : Int) ≤ 2 ^ (12 + i) ∧ (2 : Int) ^ (12 + i) ≤ 1073741824 := by
  have : ∀ i : Fin 19, (4096 : Int) ≤ 2 ^ (12 + i.val) ∧ (2 : Int) ^ (12 + i.val) ≤ 1073741824 := by decide +kernel
  exact this ⟨i, by omega⟩
theorem pow_double (a : Nat) : (2 : Int) ^ (a + 1) = 2 * 2 ^ a := by rw [Int.pow_succ, Int.mul_comm]

/-- What headerDict gives: the least number of the form at or above n. -/
def Least (n r : Int) : Prop :=
  (r = 4096 ∧ n ≤ 4096) ∨ ∃ i : Nat, i ≤ 17 ∧ ((r = 2 ^ (13 + i) ∧ n ≤ r ∧ 3 * 2 ^ (11 + i) < n) ∨ (r = 3 * 2 ^ (11 + i) ∧ n ≤ r ∧ 2 ^ (12 + i) < n))
def Gave (w : World) (n : Int) (e : Ending) (w' : World) : Prop := ∃ r, e = .returned (.int .i64 r) ∧ Least n r ∧ w = w'

set_option maxHeartbeats 400000 in
theorem dict_any (n : Int) (h : n ≤ 1073741824) (h0 : -9223372036854775808 ≤ n) (w : World) : Calls Try.prog 17 #[.int .i64 n] w (Gave w n) := by
  go_enter Try.func17, Try.ntmps17
  go_wp2
  go_loop [3] (fun d => ∃ i : Nat, i ≤ 18 ∧ ∃ D : Int, D = 2 ^ (12 + i) ∧ d = .int .i64 D ∧ (i = 0 ∨ 3 * 2 ^ (10 + i) < n)) (fun d => (n - intOf d).toNat)
  case atStart => exact ⟨0, by omega, 4096, rfl, rfl, .inl rfl⟩
  case round =>
    obtain ⟨i, hi, D, hD, rfl, hl⟩ := hrel
    have hb := pow12 i hi
    rw [← hD] at hb
    have HD : Hid (D = 2 ^ (12 + i)) := hD
    have HL : Hid (i = 0 ∨ 3 * 2 ^ (10 + i) < n) := hl
    clear hD hl
    by_cases hlt : D < n
    · by_cases hh : n ≤ D + D / 2
      · go_wp2
        go_ret
        have hi17 : i ≤ 17 := by
          by_cases e : i = 18
          · have := HD.out
            rw [e, show (2 : Int) ^ (12 + 18) = 1073741824 from rfl] at this
            omega
          · omega
        have e1 : (2 : Int) ^ (12 + i) = 2 * 2 ^ (11 + i) := by rw [show 12 + i = (11 + i) + 1 by omega]; exact pow_double _
        have e2 := HD.out
        exact ⟨D + D / 2, rfl, .inr ⟨i, hi17, .inr ⟨by omega, hh, by omega⟩⟩, rfl⟩
      · go_wp2
        go_round
        case rel =>
          have hi17 : i ≤ 17 := by
            by_cases e : i = 18
            · have := HD.out
              rw [e, show (2 : Int) ^ (12 + 18) = 1073741824 from rfl] at this
              omega
            · omega
          have e1 : (2 : Int) ^ (12 + i) = 2 * 2 ^ (11 + i) := by rw [show 12 + i = (11 + i) + 1 by omega]; exact pow_double _
          have e3 : (2 : Int) ^ (12 + (i + 1)) = 2 * 2 ^ (12 + i) := by rw [show 12 + (i + 1) = (12 + i) + 1 by omega]; exact pow_double _
          have e2 := HD.out
          exact ⟨i + 1, by omega, D * 2, by omega, rfl, .inr (by rw [show 10 + (i + 1) = 11 + i by omega]; omega)⟩
        case measure => simp [intOf]; omega
    · go_wp2
      go_ret
      refine ⟨D, rfl, ?_, rfl⟩
      have e2 := HD.out
      rcases HL.out with e | e
      · left
        rw [e, show (2 : Int) ^ (12 + 0) = 4096 from rfl] at e2
        exact ⟨e2, by omega⟩
      · cases i with
        | zero =>
          left
          rw [show (2 : Int) ^ (12 + 0) = 4096 from rfl] at e2
          exact ⟨e2, by omega⟩
        | succ i =>
          right
          rw [show 12 + (i + 1) = 13 + i by omega] at e2
          rw [show 10 + (i + 1) = 11 + i by omega] at e
          exact ⟨i, by omega, .inl ⟨e2, by omega, e⟩⟩

theorem zzdict_any (n : Int) (h : n ≤ 1073741824) (h0 : -9223372036854775808 ≤ n) (w : World) : Calls Try.prog 10 #[.int .i64 n] w (Gave w n) := by
  go_enter Try.func10, Try.ntmps10
  go_wp2_with fail
  refine (dict_any n h h0 w).mono ?_
  rintro e w' ⟨r, rfl, hr, rfl⟩
  go_wp2
  go_ret
  exact ⟨r, rfl, hr, rfl⟩

/-! ### zzIsDictForm -/
theorem form_any (r q : Int) (k : Nat) (hr : r = 2 ^ k * q) (hq : q = 1 ∨ q = 3) (h1 : 4096 ≤ r) (h2 : r ≤ 9223372036854775807) (w : World) :
    Calls Try.prog 11 #[.int .i64 r] w fun e w' => e = .returned (.bool true) ∧ w = w' := by
  have HR : Hid (r = 2 ^ k * q) := hr
  clear hr
  go_enter Try.func11, Try.ntmps11
  go_wp2
  go_loop [3] (fun x => ∃ j : Nat, ∃ X : Int, X = 2 ^ j * q ∧ 1 ≤ X ∧ X ≤ 9223372036854775807 ∧ x = .int .i64 X) (fun x => (intOf x).toNat)
  case atStart => exact ⟨k, r, HR.out, by omega, h2, rfl⟩
  case round =>
    obtain ⟨j, X, hX, b1, b2, rfl⟩ := hrel
    cases j with
    | zero =>
      have hX1 : X = q := by rw [hX]; simp
      clear hX
      rcases hq with hq | hq
      · have e : X = 1 := by omega
        subst e
        clear hX1 hq HR
        go_wp2
        go_ret
        exact ⟨rfl, rfl⟩
      · have e : X = 3 := by omega
        subst e
        clear hX1 hq HR
        go_wp2
        go_ret
        exact ⟨rfl, rfl⟩
    | succ j =>
      obtain ⟨Y, hY⟩ : ∃ Y, Y = (2 : Int) ^ j * q := ⟨_, rfl⟩
      have e : X = 2 * Y := by rw [hX, hY, pow_double, Int.mul_assoc]
      have e1 : ((X % 2 : Int) == 0) = true := by simp; omega
      have HX : Hid (X = 2 * Y) := e
      have HY : Hid (Y = 2 ^ j * q) := hY
      clear hX hY e
      go_wp2
      go_round
      case rel =>
        have e := HX.out
        exact ⟨j, X / 2, by rw [← HY.out]; omega, by omega, by omega, rfl⟩
      case measure => simp [intOf]; omega

/-! ### zzIsPow2, zzDictPred -/
theorem and_pow (k : Nat) (h : k ≤ 31) : bits .and .i64 (2 ^ k) (2 ^ k - 1) = 0 := by
  have : ∀ k : Fin 32, bits .and .i64 (2 ^ k.val) (2 ^ k.val - 1) = 0 := by decide +kernel
  exact this ⟨k, by omega⟩
theorem and_three (k : Nat) (h : k ≤ 31) : (bits .and .i64 (3 * 2 ^ k) (3 * 2 ^ k - 1) == 0) = false := by
  have : ∀ k : Fin 32, (bits .and .i64 (3 * 2 ^ k.val) (3 * 2 ^ k.val - 1) == 0) = false := by decide +kernel
  exact this ⟨k, by omega⟩
set_option maxHeartbeats 400000 in
theorem pred_pow (r : Int) (hb : bits .and .i64 r (r - 1) = 0) (h1 : 4096 ≤ r) (h2 : r ≤ 4294967296) (w : World) :
    Calls Try.prog 12 #[.int .i64 r] w fun e w' => e = .returned (.int .i64 (r / 4 * 3)) ∧ w = w' := by
  go_enter Try.func12, Try.ntmps12
  go_wp2
  go_ret
  exact ⟨rfl, rfl⟩
set_option maxHeartbeats 400000 in
theorem pred_three (r : Int) (hb : (bits .and .i64 r (r - 1) == 0) = false) (h1 : 4096 ≤ r) (h2 : r ≤ 4294967296) (w : World) :
    Calls Try.prog 12 #[.int .i64 r] w fun e w' => e = .returned (.int .i64 (r / 3 * 2)) ∧ w = w' := by
  go_enter Try.func12, Try.ntmps12
  go_wp2
  go_ret
  exact ⟨rfl, rfl⟩

/-! ### The law -/
set_option maxHeartbeats 400000 in
theorem law_big (n : Int) (h : 1073741824 < n) (w : World) : Calls Try.prog 3 #[.int .i64 n] w fun e w' => e = .returned (.bool true) ∧ w = w' := by
  go_enter Try.func3, Try.ntmps3
  go_wp2
  go_ret
  exact ⟨rfl, rfl⟩

theorem pow13 (i : Nat) (h : i ≤ 17) : (8192 : Int) ≤ 2 ^ (13 + i) ∧ (2 : Int) ^ (13 + i) ≤ 1073741824 := by
  have : ∀ i : Fin 18, (8192 : Int) ≤ 2 ^ (13 + i.val) ∧ (2 : Int) ^ (13 + i.val) ≤ 1073741824 := by decide +kernel
  exact this ⟨i, by omega⟩
theorem pow11 (i : Nat) (h : i ≤ 17) : (2048 : Int) ≤ 2 ^ (11 + i) ∧ (2 : Int) ^ (11 + i) ≤ 268435456 := by
  have : ∀ i : Fin 18, (2048 : Int) ≤ 2 ^ (11 + i.val) ∧ (2 : Int) ^ (11 + i.val) ≤ 268435456 := by decide +kernel
  exact this ⟨i, by omega⟩

set_option maxHeartbeats 400000 in
theorem law_in (n : Int) (h : n ≤ 1073741824) (h0 : -9223372036854775808 ≤ n) (w : World) : Calls Try.prog 3 #[.int .i64 n] w fun e w' => e = .returned (.bool true) ∧ w = w' := by
  by_cases hn : n < 4096
  · go_enter Try.func3, Try.ntmps3
    go_wp2_with fail
    refine (zzdict_any n h h0 w).mono ?_
    rintro e w' ⟨r, rfl, hr, rfl⟩
    have hr' : r = 4096 := by
      rcases hr with ⟨h, _⟩ | ⟨i, hi, ⟨_, _, h⟩ | ⟨_, _, h⟩⟩
      · exact h
      · have := pow11 i hi; omega
      · have := pow12 i (by omega); omega
    clear hr
    subst hr'
    go_wp2_with (go_at_call 11; refine (form_any 4096 1 12 rfl (.inl rfl) (by omega) (by omega) _).mono ?_; rintro e w' ⟨rfl, rfl⟩)
    go_ret
    exact ⟨rfl, rfl⟩
  · go_enter Try.func3, Try.ntmps3
    go_wp2_with fail
    refine (zzdict_any n h h0 w).mono ?_
    rintro e w' ⟨r, rfl, hr, rfl⟩
    rcases hr with ⟨rfl, h4⟩ | ⟨i, hi, ⟨hr, hle, hlt⟩ | ⟨hr, hle, hlt⟩⟩
    · go_wp2_with (go_at_call 11; refine (form_any 4096 1 12 rfl (.inl rfl) (by omega) (by omega) _).mono ?_; rintro e w' ⟨rfl, rfl⟩)
      go_ret
      exact ⟨rfl, rfl⟩
    · have b := pow13 i hi
      rw [← hr] at b
      have hf : Hid (r = 2 ^ (13 + i) * 1) := by show _ = _; rw [hr]; simp
      have hp : Hid (bits .and .i64 r (r - 1) = 0) := by show _ = _; rw [hr]; exact and_pow _ (by omega)
      have e1 : (2 : Int) ^ (13 + i) = 4 * 2 ^ (11 + i) := by
        rw [show 13 + i = ((11 + i) + 1) + 1 by omega, pow_double, pow_double]; omega
      have hpr : r / 4 * 3 < n := by rw [hr, e1]; omega
      clear hr e1 hlt
      go_wp2_with (first
        | (go_at_call 11; refine (form_any r 1 (13 + i) hf.out (.inl rfl) (by omega) (by omega) _).mono ?_; rintro e w' ⟨rfl, rfl⟩)
        | (go_at_call 12; refine (pred_pow r hp.out (by omega) (by omega) _).mono ?_; rintro e w' ⟨rfl, rfl⟩))
      go_ret
      exact ⟨rfl, rfl⟩
    · have b := pow11 i hi
      have hf : Hid (r = 2 ^ (11 + i) * 3) := by show _ = _; rw [hr]; omega
      have hp : Hid ((bits .and .i64 r (r - 1) == 0) = false) := by show _ = _; rw [hr]; exact and_three _ (by omega)
      have e1 : (2 : Int) ^ (12 + i) = 2 * 2 ^ (11 + i) := by
        rw [show 12 + i = (11 + i) + 1 by omega, pow_double]
      have hpr : r / 3 * 2 < n := by omega
      have b1 : 4096 < r := by omega
      have b2 : r ≤ 805306368 := by omega
      clear hr e1 hlt b
      go_wp2_with (first
        | (go_at_call 11; refine (form_any r 3 (11 + i) hf.out (.inr rfl) (by omega) (by omega) _).mono ?_; rintro e w' ⟨rfl, rfl⟩)
        | (go_at_call 12; refine (pred_three r hp.out (by omega) (by omega) _).mono ?_; rintro e w' ⟨rfl, rfl⟩))
      go_ret
      exact ⟨rfl, rfl⟩
end Go.Proofs.Qxb6000358a
