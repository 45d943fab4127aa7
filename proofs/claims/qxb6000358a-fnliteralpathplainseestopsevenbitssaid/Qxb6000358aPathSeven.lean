/-
  THE WALK of FnLiteralPathPlainSeesTopSevenBits (7): '==' on two arrays of eight.
-/
import Derived.Test.Qxb6000358aPathWalks
import Derived.Laws.StructEq
namespace Go.Proofs.Qxb6000358a
open Go.RowKit PathMath

theorem size27 : (Try.prog.info? 27).map (·.size) = some 1 := by kernel_rfl


/-- one step of the comparison, element i: parts that are integers -/
theorem part_int (xs : Array Value) (i : Nat) (x : Int) (w : World) (h : xs[i]? = some (.int .u16 x)) : (part 27 xs i).run Try.prog w = .ok (.int .u16 x) w := by
  simp [part, Sem.run_bind, h]

/-- The comparison from element i on. -/
def cmpFrom (d : Nat) (xs ys : Array Value) : List Nat → Sem Bool
  | [] => pure true
  | i :: is => do
    let a ← part 27 xs (i * 1)
    let b ← part 27 ys (i * 1)
    let r ← Op.equalIn d 27 a b
    if (!r) = true then pure false else cmpFrom d xs ys is

theorem run_equalIn_arr (d : Nat) (xs ys : Array Value) (w : World) :
    (Op.equalIn (d + 1) 28 (.agg xs) (.agg ys)).run Try.prog w = (cmpFrom d xs ys [0, 1, 2, 3, 4, 5, 6, 7]).run Try.prog w := by
  obtain ⟨i, hi, hs⟩ : ∃ i, Try.prog.info? 27 = some i ∧ i.size = 1 := by
    have h := size27
    cases hq : Try.prog.info? 27 with
    | none => simp [hq] at h
    | some i => exact ⟨i, rfl, by simpa [hq] using h⟩
  simp only [Op.equalIn, Sem.run_bind, run_underlying Try.underlying28, Result.andThen_ok]
  have e : (sizeOf 27).run Try.prog w = .ok 1 w := by simp [sizeOf, typeInfo, hi, hs]
  rw [e, Result.andThen_ok, Std.Legacy.Range.forIn_eq_forIn_range', show List.range' [:8].start [:8].size [:8].step = [0, 1, 2, 3, 4, 5, 6, 7] from rfl]
  generalize [0, 1, 2, 3, 4, 5, 6, 7] = fs
  clear e hi hs
  induction fs generalizing w with
  | nil => simp [cmpFrom]
  | cons f fs ih =>
    simp only [List.forIn_cons, cmpFrom, Sem.run_bind, Sem.run_ite]
    generalize (part 27 xs (f * 1)).run Try.prog w = r1
    cases r1 with
    | ok a w1 =>
      simp only [Result.andThen_ok]
      generalize (part 27 ys (f * 1)).run Try.prog w1 = r2
      cases r2 with
      | ok b w2 =>
        simp only [Result.andThen_ok]
        generalize (Op.equalIn d 27 a b).run Try.prog w2 = r3
        cases r3 with
        | ok r w3 =>
          cases r
          · simp only [Result.andThen_ok, Bool.not_false, if_true, Sem.run_pure]
          · simp only [Result.andThen_ok, Bool.not_true, Bool.false_eq_true, if_false, Sem.run_pure]
            exact ih w3
        | halt x w3 => simp [Result.andThen]
      | halt x w2 => simp [Result.andThen]
    | halt x w1 => simp [Result.andThen]

theorem cmp_cons (d : Nat) (xs ys : Array Value) (i : Nat) (is : List Nat) (x y : Int) (w : World) (hx : xs[i]? = some (.int .u16 x)) (hy : ys[i]? = some (.int .u16 y)) (B : Bool)
    (h : (cmpFrom (d + 1) xs ys is).run Try.prog w = .ok B w) : (cmpFrom (d + 1) xs ys (i :: is)).run Try.prog w = .ok (x == y && B) w := by
  simp only [cmpFrom, Sem.run_bind, Nat.mul_one, part_int xs i x w hx, part_int ys i y w hy, Result.andThen_ok, run_equalIn_int w d 27 .u16 .u16 x y Try.underlying27, Sem.run_ite]
  cases hq : x == y
  · simp
  · simpa using h

theorem eq_arr (x0 x1 x2 x3 x4 x5 x6 x7 y0 y1 y2 y3 y4 y5 y6 y7 : Int) (w : World) :
    (Op.equalIn 10000 28 (.agg #[.int .u16 x0, .int .u16 x1, .int .u16 x2, .int .u16 x3, .int .u16 x4, .int .u16 x5, .int .u16 x6, .int .u16 x7])
      (.agg #[.int .u16 y0, .int .u16 y1, .int .u16 y2, .int .u16 y3, .int .u16 y4, .int .u16 y5, .int .u16 y6, .int .u16 y7])).run Try.prog w =
    .ok (x0 == y0 && (x1 == y1 && (x2 == y2 && (x3 == y3 && (x4 == y4 && (x5 == y5 && (x6 == y6 && (x7 == y7 && true)))))))) w := by
  rw [show (10000 : Nat) = 9998 + 1 + 1 from rfl, run_equalIn_arr]
  refine cmp_cons 9998 _ _ 0 _ x0 y0 w rfl rfl _ ?_
  refine cmp_cons 9998 _ _ 1 _ x1 y1 w rfl rfl _ ?_
  refine cmp_cons 9998 _ _ 2 _ x2 y2 w rfl rfl _ ?_
  refine cmp_cons 9998 _ _ 3 _ x3 y3 w rfl rfl _ ?_
  refine cmp_cons 9998 _ _ 4 _ x4 y4 w rfl rfl _ ?_
  refine cmp_cons 9998 _ _ 5 _ x5 y5 w rfl rfl _ ?_
  refine cmp_cons 9998 _ _ 6 _ x6 y6 w rfl rfl _ ?_
  refine cmp_cons 9998 _ _ 7 _ x7 y7 w rfl rfl _ ?_
  simp [cmpFrom]

/-! ### The plain law -/
theorem en_zero (c : Int) (s : Nat) : en c 0 (s + 1) = sy c (s + 1) := (en_no c 0 s rfl).symm
theorem and254 (y : Int) (h0 : 0 ≤ y) (h1 : y < 4294967296) : bits .and .u32 y 254 = y % 256 / 2 * 2 := by
  rw [u32_and y 254 h0 h1 (by decide) (by decide), show ((254 : Int).toNat) = 254 from rfl]
  have e := nat_hi8_1 y.toNat
  omega
theorem same_bits (c d : Int) (h : c % 256 / 2 = d % 256 / 2) (s : Nat) (hs : s < 8) : sy c (s + 1) = sy d (s + 1) := by
  rcases eight s hs with rfl | rfl | rfl | rfl | rfl | rfl | rfl | rfl <;> simp [sy] <;> omega
theorem all_or (c d : Int) : (sy c 8 == sy d 8 && (sy c 7 == sy d 7 && (sy c 6 == sy d 6 && (sy c 5 == sy d 5 && (sy c 4 == sy d 4 && (sy c 3 == sy d 3 && (sy c 2 == sy d 2 && (sy c 1 == sy d 1 && true)))))))) = decide (c % 256 / 2 = d % 256 / 2) := by
  by_cases h : c % 256 / 2 = d % 256 / 2
  · rw [same_bits c d h 7 (by omega), same_bits c d h 6 (by omega), same_bits c d h 5 (by omega), same_bits c d h 4 (by omega), same_bits c d h 3 (by omega), same_bits c d h 2 (by omega), same_bits c d h 1 (by omega), same_bits c d h 0 (by omega)]
    simp [h]
  · have h1 : (sy c 1 == sy d 1) = false := by
      simp [sy]
      omega
    rw [h1]
    simp [h]

set_option maxHeartbeats 1000000 in
theorem seven (c d : Int) (c0 : 0 ≤ c) (c1 : c < 4294967296) (m0 : 0 ≤ d) (m1 : d < 4294967296) (w : World) :
    Calls Try.prog 7 #[.int .u32 c, .int .u32 d] w fun e w' => e = .returned (.bool true) ∧ Below w.heap.size w w' := by
  have heq : ∀ wx, (Op.equalIn 10000 28 (.agg #[.int .u16 (en c 0 8), .int .u16 (en c 0 7), .int .u16 (en c 0 6), .int .u16 (en c 0 5), .int .u16 (en c 0 4), .int .u16 (en c 0 3), .int .u16 (en c 0 2), .int .u16 (en c 0 1)])
      (.agg #[.int .u16 (en d 0 8), .int .u16 (en d 0 7), .int .u16 (en d 0 6), .int .u16 (en d 0 5), .int .u16 (en d 0 4), .int .u16 (en d 0 3), .int .u16 (en d 0 2), .int .u16 (en d 0 1)])).run Try.prog wx = .ok (decide (c % 256 / 2 = d % 256 / 2)) wx := by
    intro wx
    rw [eq_arr, ← all_or]
    simp only [en_zero c 7, en_zero c 6, en_zero c 5, en_zero c 4, en_zero c 3, en_zero c 2, en_zero c 1, en_zero c 0, en_zero d 7, en_zero d 6, en_zero d 5, en_zero d 4, en_zero d 3, en_zero d 2, en_zero d 1, en_zero d 0]
  have x1 : bits .and .u32 c 254 = c % 256 / 2 * 2 := and254 c c0 c1
  have x2 : bits .and .u32 d 254 = d % 256 / 2 * 2 := and254 d m0 m1
  go_enter Try.func7, Try.ntmps7
  go_wp2_with fail
  refine (zzpath_any c 0 c0 c1 (by omega) (by omega) _).mono ?_
  rintro e w1 ⟨rfl, hb1⟩
  go_wp2_with fail
  refine (zzpath_any d 0 m0 m1 (by omega) (by omega) _).mono ?_
  rintro e w2 ⟨rfl, hb2⟩
  go_wp2
  go_ret
  refine ⟨congrArg (fun b => Ending.returned (Value.bool b)) (?_ : (decide (c % 256 / 2 = d % 256 / 2) == (c % 256 / 2 * 2 == d % 256 / 2 * 2)) = true), hb1.trans (hb2.mono hb1.size)⟩
  by_cases h : c % 256 / 2 = d % 256 / 2
  · simp [h]
  · have h2 : (c % 256 / 2 * 2 == d % 256 / 2 * 2) = false := by simp; omega
    rw [h2]
    simp [h]
end Go.Proofs.Qxb6000358a
