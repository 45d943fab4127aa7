/-
  PLAIN ARITHMETIC for 'eight': lanes of a word. No Go in sight but the model's own 'bits' and 'wrap' at the end.
-/
import Derived.Laws.BitsAllLaws
namespace Go.Proofs.Qxb6602096a.EightMath
theorem and_lane (k a b c d : Nat) (ha : a < 2 ^ k) (hc : c < 2 ^ k) : (a + 2 ^ k * b) &&& (c + 2 ^ k * d) = (a &&& c) + 2 ^ k * (b &&& d) := by
  have hac : a &&& c < 2 ^ k := Nat.and_lt_two_pow _ hc
  rw [Nat.add_comm a, Nat.add_comm c, Nat.add_comm (a &&& c)]
  apply Nat.eq_of_testBit_eq
  intro i
  rw [Nat.testBit_and, Nat.testBit_two_pow_mul_add _ ha, Nat.testBit_two_pow_mul_add _ hc, Nat.testBit_two_pow_mul_add _ hac]
  split <;> simp
theorem mask_lo (k j y : Nat) (hj : j ≤ k) (d : Nat) : y &&& (2 ^ j - 1 + 2 ^ k * d) = y % 2 ^ j + 2 ^ k * ((y / 2 ^ k) &&& d) := by
  have hp : 0 < 2 ^ k := Nat.two_pow_pos k
  have hjk : 2 ^ j ≤ 2 ^ k := Nat.pow_le_pow_right (by decide) hj
  have hpj : 0 < 2 ^ j := Nat.two_pow_pos j
  have e := and_lane k (y % 2 ^ k) (y / 2 ^ k) (2 ^ j - 1) d (Nat.mod_lt _ hp) (by omega)
  rw [Nat.mod_add_div] at e
  rw [e, Nat.and_two_pow_sub_one_eq_mod, Nat.mod_mod_of_dvd _ (Nat.pow_dvd_pow 2 hj)]
theorem mask7f (y : Nat) : y &&& 545460846719 = y % 128 + 4294967296 * (y / 4294967296 % 128) := by
  have := mask_lo 32 7 y (by decide) 127
  rw [show (127 : Nat) = 2 ^ 7 - 1 from rfl, Nat.and_two_pow_sub_one_eq_mod] at this
  exact this
theorem mask0f (y : Nat) : y &&& 4222189076152335 = y % 16 + 65536 * (y / 65536 % 16 + 65536 * (y / 65536 / 65536 % 16 + 65536 * (y / 65536 / 65536 / 65536 % 16))) := by
  have h3 := mask_lo 16 4 y (by decide) 64425492495
  have h2 := mask_lo 16 4 (y / 65536) (by decide) 983055
  have h1 := mask_lo 16 4 (y / 65536 / 65536) (by decide) 15
  have h0 : y / 65536 / 65536 / 65536 &&& 15 = y / 65536 / 65536 / 65536 % 16 := Nat.and_two_pow_sub_one_eq_mod _ 4
  simp only [Nat.reducePow, Nat.reduceMul, Nat.reduceAdd, Nat.reduceSub] at h1 h2 h3
  rw [h3, h2, h1, h0]
/-- what 'eight' reckons, on naturals -/
def w1 (x : Nat) : Nat := (x / 10000) ||| (x % 10000 * 4294967296)
def q1 (x : Nat) : Nat := (w1 x * 10486 / 1048576) &&& 545460846719
def w2 (x : Nat) : Nat := q1 x ||| ((w1 x - q1 x * 100) * 65536)
def q2 (x : Nat) : Nat := (w2 x * 103 / 1024) &&& 4222189076152335
def eight (x : Nat) : Nat := q2 x ||| ((w2 x - q2 x * 10) * 256)
theorem or_hi (i a b : Nat) (ha : a < 2 ^ i) : a ||| (b * 2 ^ i) = a + 2 ^ i * b := by
  rw [Nat.or_comm, Nat.mul_comm, ← Nat.two_pow_add_eq_or_of_lt ha, Nat.add_comm]
theorem w1_eq (x : Nat) (h : x < 100000000) : w1 x = x / 10000 + 4294967296 * (x % 10000) := 
  or_hi 32 _ _ (by omega)
theorem div100 (a : Nat) (h : a < 10000) : a * 10486 / 1048576 = a / 100 := by omega
theorem lane1 (a b : Nat) : (a + 4294967296 * b) * 10486 / 1048576 = a * 10486 / 1048576 + 4096 * (b * 10486) := by omega
theorem lane1b (a b : Nat) (h : a < 4096) : (a + 4096 * b) / 4294967296 = b / 1048576 := by omega
theorem lane1c (a b : Nat) (h : a < 128) : (a + 4096 * b) % 128 = a := by omega
theorem div10 (a : Nat) (h : a < 100) : a * 103 / 1024 = a / 10 := by omega
theorem lane2 (a b : Nat) : (a + 65536 * b) * 103 / 1024 = a * 103 / 1024 + 64 * (b * 103) := by omega
theorem lane2b (a b : Nat) (h : a < 64) : (a + 64 * b) / 65536 = b / 1024 := by omega
theorem lane2c (a b : Nat) (h : a < 16) : (a + 64 * b) % 16 = a := by omega
theorem q1_eq (x : Nat) (h : x < 100000000) : q1 x = x / 1000000 + 4294967296 * (x % 10000 / 100) := by
  unfold q1; rw [mask7f, w1_eq x h]
  have e1 : x / 1000000 = x / 10000 / 100 := by omega
  have b1 : x / 10000 < 10000 := by omega
  have b2 : x % 10000 < 10000 := by omega
  rw [e1]
  generalize x / 10000 = a at *
  generalize x % 10000 = b at *
  clear e1 h
  have f1 := div100 a b1
  have f2 := div100 b b2
  rw [lane1, f1, lane1b _ _ (by omega), f2, lane1c _ _ (by omega)]
  omega
theorem or_lane (k a b c d : Nat) (ha : a < 2 ^ k) (hc : c < 2 ^ k) : (a + 2 ^ k * b) ||| (c + 2 ^ k * d) = (a ||| c) + 2 ^ k * (b ||| d) := by
  have hac : a ||| c < 2 ^ k := Nat.or_lt_two_pow ha hc
  rw [Nat.add_comm a, Nat.add_comm c, Nat.add_comm (a ||| c)]
  apply Nat.eq_of_testBit_eq
  intro i
  rw [Nat.testBit_or, Nat.testBit_two_pow_mul_add _ ha, Nat.testBit_two_pow_mul_add _ hc, Nat.testBit_two_pow_mul_add _ hac]
  split <;> simp
theorem w2_eq (x : Nat) (h : x < 100000000) : w2 x = x / 1000000 + 65536 * (x / 10000 % 100) + 4294967296 * (x % 10000 / 100) + 281474976710656 * (x % 100) := by
  unfold w2; rw [w1_eq x h, q1_eq x h]
  have e : (x / 10000 + 4294967296 * (x % 10000) - (x / 1000000 + 4294967296 * (x % 10000 / 100)) * 100) * 65536 = x / 10000 % 100 * 2 ^ 16 + 2 ^ 32 * (x % 100 * 2 ^ 16) := by omega
  rw [e, show (4294967296 : Nat) = 2 ^ 32 from rfl, or_lane 32 _ _ _ _ (by omega) (by omega), or_hi 16 _ _ (by omega), or_hi 16 _ _ (by omega)]
  omega
theorem q2_eq (x : Nat) (h : x < 100000000) : q2 x = x / 10000000 + 65536 * (x / 100000 % 10) + 4294967296 * (x / 1000 % 10) + 281474976710656 * (x / 10 % 10) := by
  unfold q2; rw [mask0f, w2_eq x h]
  generalize h1 : x / 1000000 = a
  generalize h2 : x / 10000 % 100 = b
  generalize h3 : x % 10000 / 100 = c
  generalize h4 : x % 100 = d
  have e1 : x / 10000000 = a / 10 := by omega
  have e2 : x / 100000 % 10 = b / 10 := by omega
  have e3 : x / 1000 % 10 = c / 10 := by omega
  have e4 : x / 10 % 10 = d / 10 := by omega
  have b1 : a < 100 := by omega
  have b2 : b < 100 := by omega
  have b3 : c < 100 := by omega
  have b4 : d < 100 := by omega
  rw [e1, e2, e3, e4]
  clear h1 h2 h3 h4 e1 e2 e3 e4 h
  have f1 := div10 a b1
  have f2 := div10 b b2
  have f3 := div10 c b3
  have f4 := div10 d b4
  have g : a + 65536 * b + 4294967296 * c + 281474976710656 * d = a + 65536 * (b + 65536 * (c + 65536 * d)) := by omega
  rw [g, lane2, f1, lane2b _ _ (by omega), lane2, f2, lane2b _ _ (by omega), lane2, f3, lane2b _ _ (by omega), f4,
    lane2c _ _ (by omega), lane2c _ _ (by omega), lane2c _ _ (by omega)]
  omega
theorem eight_eq (x : Nat) (h : x < 100000000) : eight x = x / 10000000 + 256 * (x / 1000000 % 10) + 65536 * (x / 100000 % 10) + 16777216 * (x / 10000 % 10) +
    4294967296 * (x / 1000 % 10) + 1099511627776 * (x / 100 % 10) + 281474976710656 * (x / 10 % 10) + 72057594037927936 * (x % 10) := by
  unfold eight; rw [w2_eq x h, q2_eq x h]
  generalize h1 : x / 1000000 = a
  generalize h2 : x / 10000 % 100 = b
  generalize h3 : x % 10000 / 100 = c
  generalize h4 : x % 100 = d
  have e1 : x / 10000000 = a / 10 := by omega
  have e2 : x / 100000 % 10 = b / 10 := by omega
  have e3 : x / 1000 % 10 = c / 10 := by omega
  have e4 : x / 10 % 10 = d / 10 := by omega
  have e5 : x / 10000 % 10 = b % 10 := by omega
  have e6 : x / 100 % 10 = c % 10 := by omega
  have e7 : x % 10 = d % 10 := by omega
  have b1 : a < 100 := by omega
  have b2 : b < 100 := by omega
  have b3 : c < 100 := by omega
  have b4 : d < 100 := by omega
  rw [e1, e2, e3, e4, e5, e6, e7]
  clear h1 h2 h3 h4 e1 e2 e3 e4 e5 e6 e7 h
  have g1 : (a + 65536 * b + 4294967296 * c + 281474976710656 * d - (a / 10 + 65536 * (b / 10) + 4294967296 * (c / 10) + 281474976710656 * (d / 10)) * 10) * 256 =
      a % 10 * 2 ^ 8 + 2 ^ 16 * (b % 10 * 2 ^ 8 + 2 ^ 16 * (c % 10 * 2 ^ 8 + 2 ^ 16 * (d % 10 * 2 ^ 8))) := by omega
  have g2 : a / 10 + 65536 * (b / 10) + 4294967296 * (c / 10) + 281474976710656 * (d / 10) = a / 10 + 2 ^ 16 * (b / 10 + 2 ^ 16 * (c / 10 + 2 ^ 16 * (d / 10))) := by omega
  rw [g1, g2, or_lane 16 _ _ _ _ (by omega) (by omega), or_lane 16 _ _ _ _ (by omega) (by omega), or_lane 16 _ _ _ _ (by omega) (by omega), or_hi 8 _ _ (by omega), or_hi 8 _ _ (by omega), or_hi 8 _ _ (by omega), or_hi 8 _ _ (by omega)]
  omega

/-! ### The same on Int, in the walk's own spelling -/
def W1 (x : Int) : Int := bits .or .u64 (x / 10000) (x % 10000 * 4294967296)
def Q1 (x : Int) : Int := bits .and .u64 (IntKind.u64.wrap (W1 x * 10486) / 1048576) 545460846719
def W2 (x : Int) : Int := bits .or .u64 (Q1 x) (IntKind.u64.wrap (IntKind.u64.wrap (W1 x - IntKind.u64.wrap (Q1 x * 100)) * 65536))
def Q2 (x : Int) : Int := bits .and .u64 (IntKind.u64.wrap (W2 x * 103) / 1024) 4222189076152335
def E8 (x : Int) : Int := bits .or .u64 (Q2 x) (IntKind.u64.wrap (IntKind.u64.wrap (W2 x - IntKind.u64.wrap (Q2 x * 10)) * 256))

theorem W1_nat (x : Nat) (h : x < 100000000) : W1 (x : Int) = (w1 x : Nat) := by
  unfold W1 w1
  have e1 : (x : Int) / 10000 = ((x / 10000 : Nat) : Int) := by omega
  have e2 : (x : Int) % 10000 * 4294967296 = ((x % 10000 * 4294967296 : Nat) : Int) := by omega
  rw [e1, e2, u64_or_nat _ _ (by omega) (by omega)]
theorem Q1_nat (x : Nat) (h : x < 100000000) : Q1 (x : Int) = (q1 x : Nat) := by
  have b := w1_eq x h
  unfold Q1 q1
  rw [W1_nat x h, IntKind.wrap_u64]
  have e1 : ((w1 x : Nat) : Int) * 10486 % 18446744073709551616 / 1048576 = ((w1 x * 10486 / 1048576 : Nat) : Int) := by omega
  have e2 : (545460846719 : Int) = ((545460846719 : Nat) : Int) := rfl
  rw [e1, e2, u64_and_nat _ _ (by omega) (by omega)]
theorem W2_nat (x : Nat) (h : x < 100000000) : W2 (x : Int) = (w2 x : Nat) := by
  have b := w1_eq x h
  have c := q1_eq x h
  unfold W2 w2
  rw [W1_nat x h, Q1_nat x h, IntKind.wrap_u64, IntKind.wrap_u64, IntKind.wrap_u64]
  have e1 : (((w1 x : Nat) : Int) - ((q1 x : Nat) : Int) * 100 % 18446744073709551616) % 18446744073709551616 * 65536 % 18446744073709551616 = (((w1 x - q1 x * 100) * 65536 : Nat) : Int) := by omega
  rw [e1, u64_or_nat _ _ (by omega) (by omega)]
theorem Q2_nat (x : Nat) (h : x < 100000000) : Q2 (x : Int) = (q2 x : Nat) := by
  have b := w2_eq x h
  unfold Q2 q2
  rw [W2_nat x h, IntKind.wrap_u64]
  have e1 : ((w2 x : Nat) : Int) * 103 % 18446744073709551616 / 1024 = ((w2 x * 103 / 1024 : Nat) : Int) := by omega
  have e2 : (4222189076152335 : Int) = ((4222189076152335 : Nat) : Int) := rfl
  rw [e1, e2, u64_and_nat _ _ (by omega) (by omega)]
theorem sub2 (x : Nat) (h : x < 100000000) : q2 x * 10 ≤ w2 x ∧ w2 x - q2 x * 10 < 4503599627370496 ∧ w2 x < 36028797018963968 := by
  rw [w2_eq x h, q2_eq x h]
  generalize h1 : x / 1000000 = a
  generalize h2 : x / 10000 % 100 = b
  generalize h3 : x % 10000 / 100 = c
  generalize h4 : x % 100 = d
  have e1 : x / 10000000 = a / 10 := by omega
  have e2 : x / 100000 % 10 = b / 10 := by omega
  have e3 : x / 1000 % 10 = c / 10 := by omega
  have e4 : x / 10 % 10 = d / 10 := by omega
  have b1 : a < 100 := by omega
  have b2 : b < 100 := by omega
  have b3 : c < 100 := by omega
  have b4 : d < 100 := by omega
  rw [e1, e2, e3, e4]
  clear h1 h2 h3 h4 e1 e2 e3 e4 h
  refine ⟨by omega, by omega, by omega⟩
theorem E8_nat (x : Nat) (h : x < 100000000) : E8 (x : Int) = (eight x : Nat) := by
  obtain ⟨b1, b2, b3⟩ := sub2 x h
  unfold E8 eight
  rw [W2_nat x h, Q2_nat x h, IntKind.wrap_u64, IntKind.wrap_u64, IntKind.wrap_u64]
  generalize w2 x = A at *
  generalize q2 x = B at *
  have e1 : ((A : Int) - (B : Int) * 10 % 18446744073709551616) % 18446744073709551616 * 256 % 18446744073709551616 = (((A - B * 10) * 256 : Nat) : Int) := by omega
  rw [e1, u64_or_nat _ _ (by omega) (by omega)]

/-- The eight digits as lanes. -/
def lanes (x : Int) : Int := x / 10000000 + 256 * (x / 1000000 % 10) + 65536 * (x / 100000 % 10) + 16777216 * (x / 10000 % 10) +
    4294967296 * (x / 1000 % 10) + 1099511627776 * (x / 100 % 10) + 281474976710656 * (x / 10 % 10) + 72057594037927936 * (x % 10)
theorem E8_eq (x : Int) (h0 : 0 ≤ x) (h1 : x < 100000000) : E8 x = lanes x := by
  obtain ⟨n, rfl⟩ := Int.eq_ofNat_of_zero_le h0
  rw [E8_nat n (by omega), eight_eq n (by omega)]
  unfold lanes
  omega

/-- What the law's own loop gathers. -/
def want (x : Int) : Int :=
  bits .or .u64 (bits .or .u64 (bits .or .u64 (bits .or .u64 (bits .or .u64 (bits .or .u64 (bits .or .u64 (bits .or .u64 0 (x % 10 * 72057594037927936))
    (x / 10 % 10 * 281474976710656)) (x / 10 / 10 % 10 * 1099511627776)) (x / 10 / 10 / 10 % 10 * 4294967296)) (x / 10 / 10 / 10 / 10 % 10 * 16777216))
    (x / 10 / 10 / 10 / 10 / 10 % 10 * 65536)) (x / 10 / 10 / 10 / 10 / 10 / 10 % 10 * 256)) (x / 10 / 10 / 10 / 10 / 10 / 10 / 10 % 10)
theorem or_step (i : Nat) (a b : Int) (ha0 : 0 ≤ a) (ha1 : a < 18446744073709551616) (hm : a % 2 ^ i = 0) (hb0 : 0 ≤ b) (hb1 : b < 2 ^ i) (hb2 : b < 18446744073709551616) : bits .or .u64 a b = a + b := by
  obtain ⟨m, rfl⟩ := Int.eq_ofNat_of_zero_le ha0
  obtain ⟨n, rfl⟩ := Int.eq_ofNat_of_zero_le hb0
  rw [u64_or_nat _ _ (by omega) (by omega), nat_join i m n (by exact_mod_cast hm) (by exact_mod_cast hb1)]
  rfl
theorem want_eq (x : Int) (h0 : 0 ≤ x) (h1 : x < 100000000) : want x = lanes x := by
  unfold want lanes
  have e1 : x / 10 / 10 % 10 = x / 100 % 10 := by omega
  have e2 : x / 10 / 10 / 10 % 10 = x / 1000 % 10 := by omega
  have e3 : x / 10 / 10 / 10 / 10 % 10 = x / 10000 % 10 := by omega
  have e4 : x / 10 / 10 / 10 / 10 / 10 % 10 = x / 100000 % 10 := by omega
  have e5 : x / 10 / 10 / 10 / 10 / 10 / 10 % 10 = x / 1000000 % 10 := by omega
  have e6 : x / 10 / 10 / 10 / 10 / 10 / 10 / 10 % 10 = x / 10000000 := by omega
  rw [e6, e5, e4, e3, e2, e1]
  have d0 : 0 ≤ x % 10 ∧ x % 10 < 10 := by omega
  have d1 : 0 ≤ x / 10 % 10 ∧ x / 10 % 10 < 10 := by omega
  have d2 : 0 ≤ x / 100 % 10 ∧ x / 100 % 10 < 10 := by omega
  have d3 : 0 ≤ x / 1000 % 10 ∧ x / 1000 % 10 < 10 := by omega
  have d4 : 0 ≤ x / 10000 % 10 ∧ x / 10000 % 10 < 10 := by omega
  have d5 : 0 ≤ x / 100000 % 10 ∧ x / 100000 % 10 < 10 := by omega
  have d6 : 0 ≤ x / 1000000 % 10 ∧ x / 1000000 % 10 < 10 := by omega
  have d7 : 0 ≤ x / 10000000 ∧ x / 10000000 < 10 := by omega
  clear e1 e2 e3 e4 e5 e6 h0 h1
  generalize x % 10 = y0 at *
  generalize x / 10 % 10 = y1 at *
  generalize x / 100 % 10 = y2 at *
  generalize x / 1000 % 10 = y3 at *
  generalize x / 10000 % 10 = y4 at *
  generalize x / 100000 % 10 = y5 at *
  generalize x / 1000000 % 10 = y6 at *
  generalize x / 10000000 = y7 at *
  rw [or_step 63 0 _ (by omega) (by omega) (by decide) (by omega) (by omega) (by omega)]
  rw [or_step 56 _ (y1 * _) (by omega) (by omega) (by omega) (by omega) (by omega) (by omega)]
  rw [or_step 48 _ (y2 * _) (by omega) (by omega) (by omega) (by omega) (by omega) (by omega)]
  rw [or_step 40 _ (y3 * _) (by omega) (by omega) (by omega) (by omega) (by omega) (by omega)]
  rw [or_step 32 _ (y4 * _) (by omega) (by omega) (by omega) (by omega) (by omega) (by omega)]
  rw [or_step 24 _ (y5 * _) (by omega) (by omega) (by omega) (by omega) (by omega) (by omega)]
  rw [or_step 16 _ (y6 * _) (by omega) (by omega) (by omega) (by omega) (by omega) (by omega)]
  rw [or_step 8 _ y7 (by omega) (by omega) (by omega) (by omega) (by omega) (by omega)]
  omega
/-! ### The bytes of the word, read back -/
theorem lanes_bd (x : Int) (h0 : 0 ≤ x) (h1 : x < 100000000) : 0 ≤ lanes x ∧ lanes x < 18446744073709551616 := by
  have d7 : 0 ≤ x / 10000000 ∧ x / 10000000 < 10 := by omega
  unfold lanes
  omega
theorem and255 (y : Int) (h0 : 0 ≤ y) (h1 : y < 18446744073709551616) : bits .and .u64 y 255 = y % 256 := by
  rw [u64_and y 255 h0 h1 (by decide) (by decide), show ((255 : Int).toNat) = 255 from rfl, nat_mask8]
  omega
theorem byte_at (x p : Int) (h0 : 0 ≤ x) (h1 : x < 100000000) (hp : 0 < p) : bits .and .u64 (lanes x / p) 255 = lanes x / p % 256 := by
  obtain ⟨b0, b1⟩ := lanes_bd x h0 h1
  have : 0 ≤ lanes x / p := Int.ediv_nonneg b0 (Int.le_of_lt hp)
  have : lanes x / p ≤ lanes x := Int.ediv_le_self _ b0
  exact and255 _ (by omega) (by omega)
theorem bytes_lanes (y0 y1 y2 y3 y4 y5 y6 y7 : Int) (d0 : 0 ≤ y0 ∧ y0 < 10) (d1 : 0 ≤ y1 ∧ y1 < 10) (d2 : 0 ≤ y2 ∧ y2 < 10) (d3 : 0 ≤ y3 ∧ y3 < 10)
    (d4 : 0 ≤ y4 ∧ y4 < 10) (d5 : 0 ≤ y5 ∧ y5 < 10) (d6 : 0 ≤ y6 ∧ y6 < 10) (d7 : 0 ≤ y7 ∧ y7 < 10) (L : Int)
    (hL : L = y7 + 256 * y6 + 65536 * y5 + 16777216 * y4 + 4294967296 * y3 + 1099511627776 * y2 + 281474976710656 * y1 + 72057594037927936 * y0) :
    L % 256 = y7 ∧ L / 256 % 256 = y6 ∧ L / 65536 % 256 = y5 ∧ L / 16777216 % 256 = y4 ∧ L / 4294967296 % 256 = y3 ∧ L / 1099511627776 % 256 = y2 ∧
      L / 281474976710656 % 256 = y1 ∧ L / 72057594037927936 % 256 = y0 := by
  refine ⟨by omega, by omega, by omega, by omega, by omega, by omega, by omega, by omega⟩
theorem bytes (x : Int) (h0 : 0 ≤ x) (h1 : x < 100000000) :
    bits .and .u64 (lanes x) 255 = x / 10000000 ∧ bits .and .u64 (lanes x / 256) 255 = x / 1000000 % 10 ∧ bits .and .u64 (lanes x / 65536) 255 = x / 100000 % 10 ∧
    bits .and .u64 (lanes x / 16777216) 255 = x / 10000 % 10 ∧ bits .and .u64 (lanes x / 4294967296) 255 = x / 1000 % 10 ∧ bits .and .u64 (lanes x / 1099511627776) 255 = x / 100 % 10 ∧
    bits .and .u64 (lanes x / 281474976710656) 255 = x / 10 % 10 ∧ bits .and .u64 (lanes x / 72057594037927936) 255 = x % 10 := by
  obtain ⟨b0, b1⟩ := lanes_bd x h0 h1
  rw [and255 _ b0 b1, byte_at x _ h0 h1 (by decide), byte_at x _ h0 h1 (by decide), byte_at x _ h0 h1 (by decide), byte_at x _ h0 h1 (by decide), byte_at x _ h0 h1 (by decide),
    byte_at x _ h0 h1 (by decide), byte_at x _ h0 h1 (by decide)]
  exact bytes_lanes _ _ _ _ _ _ _ _ (by omega) (by omega) (by omega) (by omega) (by omega) (by omega) (by omega) (by omega) _ rfl
end Go.Proofs.Qxb6602096a.EightMath
