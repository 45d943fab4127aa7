/-
  THE WALKS: 'eight' (17), and the laws over it.
-/
import Derived.Test.Qxb6602096aProg
import Derived.Test.Qxb6602096aEightMath
import Derived.WalkKit
import Derived.RowKit3
namespace Go.Proofs.Qxb6602096a
open Go.RowKit

theorem ret_int {k : IntKind} {a b : Int} (h : a = b) : Ending.returned (.int k a) = .returned (.int k b) := by rw [h]
theorem ret_bool {a b : Bool} (h : a = b) : Ending.returned (.bool a) = .returned (.bool b) := by rw [h]

/-- 'eight': the digits as lanes. -/
theorem eight_any (x : Int) (h0 : 0 ≤ x) (h1 : x < 100000000) (w : World) :
    Calls Try.prog 17 #[.int .u64 x] w fun e w' => e = .returned (.int .u64 (EightMath.lanes x)) ∧ w' = w := by
  have key := EightMath.E8_eq x h0 h1
  rw [← key]
  clear key
  go_enter Try.func17, Try.ntmps17
  go_wp2
  go_ret
  exact ⟨rfl, rfl⟩

set_option maxHeartbeats 1000000 in
theorem law1 (x : Int) (h0 : 0 ≤ x) (h1 : x < 100000000) (w : World) :
    Calls Try.prog 3 #[.int .u64 x] w fun e w' => e = .returned (.bool true) ∧ w' = w := by
  go_enter Try.func3, Try.ntmps3
  go_wp2
  refine wp_loop_rounds 9 ?_
  rw [rounds_succ]; go_wp2
  rw [rounds_succ]; go_wp2
  rw [rounds_succ]; go_wp2
  rw [rounds_succ]; go_wp2
  rw [rounds_succ]; go_wp2
  rw [rounds_succ]; go_wp2
  rw [rounds_succ]; go_wp2
  rw [rounds_succ]; go_wp2
  rw [rounds_succ]; go_wp2_with (first | (go_at_call 17; refine (eight_any _ h0 h1 _).mono ?_; rintro e w' ⟨rfl, rfl⟩) | go_in)
  go_ret
  refine ⟨ret_bool (?_ : (EightMath.lanes x == EightMath.want x) = true), rfl⟩
  rw [EightMath.want_eq x h0 h1]
  exact beq_self_eq_true _

theorem law1_out (x : Int) (h1 : 100000000 ≤ x) (w : World) :
    Calls Try.prog 3 #[.int .u64 x] w fun e w' => e = .returned (.bool true) ∧ w' = w := by
  go_enter Try.func3, Try.ntmps3
  go_wp2
  go_ret
  exact ⟨rfl, rfl⟩

set_option maxHeartbeats 1000000 in
theorem law2 (x : Int) (h0 : 0 ≤ x) (h1 : x < 100000000) (w : World) :
    Calls Try.prog 4 #[.int .u64 x] w fun e w' => e = .returned (.bool true) ∧ w' = w := by
  obtain ⟨b0, b1, b2, b3, b4, b5, b6, b7⟩ := EightMath.bytes x h0 h1
  go_enter Try.func4, Try.ntmps4
  go_wp2_with (first | (go_at_call 17; refine (eight_any _ h0 h1 _).mono ?_; rintro e w' ⟨rfl, rfl⟩) | go_in)
  refine wp_loop_rounds 9 ?_
  rw [rounds_succ]; go_wp2
  rw [rounds_succ]; go_wp2
  rw [rounds_succ]; go_wp2
  rw [rounds_succ]; go_wp2
  rw [rounds_succ]; go_wp2
  rw [rounds_succ]; go_wp2
  rw [rounds_succ]; go_wp2
  rw [rounds_succ]; go_wp2
  rw [rounds_succ]; go_wp2
  go_ret
  refine ⟨ret_bool ?_, rfl⟩
  simp
  omega

theorem law2_out (x : Int) (h1 : 100000000 ≤ x) (w : World) :
    Calls Try.prog 4 #[.int .u64 x] w fun e w' => e = .returned (.bool true) ∧ w' = w := by
  go_enter Try.func4, Try.ntmps4
  go_wp2
  go_ret
  exact ⟨rfl, rfl⟩
end Go.Proofs.Qxb6602096a
