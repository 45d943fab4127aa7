/-
  PLAIN ARITHMETIC for literalPath: bits of a byte, from the top.
-/
import Derived.Laws.BitsAllLaws
namespace Go.Proofs.Qxb6000358a.PathMath

/-- 1 followed by the top (8 - r) bits of c's byte. -/
def sy (c : Int) (r : Nat) : Int := 2 ^ (8 - r) + c % 256 / 2 ^ r
/-- The top (8 - r) bits of the two bytes agree, and m is not 0. -/
def mt (c m : Int) (r : Nat) : Bool := m != 0 && (c % 256 / 2 ^ r == m % 256 / 2 ^ r)
/-- The entry that is written when r bits are left, bit r - 1 is the next. -/
def en (c m : Int) (r : Nat) : Int := sy c r + if mt c m r then (1 + m / 2 ^ (r - 1) % 2) * 256 else 0

theorem and1 (y : Int) (h0 : 0 ≤ y) (h1 : y < 4294967296) : bits .and .u32 y 1 = y % 2 := by
  rw [u32_and y 1 h0 h1 (by decide) (by decide), show ((1 : Int).toNat) = 1 from rfl, nat_mask1]
  omega
theorem and255 (y : Int) (h0 : 0 ≤ y) (h1 : y < 4294967296) : bits .and .u32 y 255 = y % 256 := by
  rw [u32_and y 255 h0 h1 (by decide) (by decide), show ((255 : Int).toNat) = 255 from rfl, nat_mask8]
  omega
theorem or_hi (i : Nat) (a b : Int) (ha0 : 0 ≤ a) (ha1 : a < 2 ^ i) (ha2 : a < 4294967296) (hb0 : 0 ≤ b) (hb1 : b < 4294967296) (hm : b % 2 ^ i = 0) : bits .or .u32 a b = a + b := by
  obtain ⟨m, rfl⟩ := Int.eq_ofNat_of_zero_le ha0
  obtain ⟨n, rfl⟩ := Int.eq_ofNat_of_zero_le hb0
  rw [u32_or_nat _ _ (by omega) (by omega), Nat.or_comm, nat_join i n m (by exact_mod_cast hm) (by exact_mod_cast ha1)]
  omega
theorem or_lo (i : Nat) (a b : Int) (ha0 : 0 ≤ a) (ha1 : a < 4294967296) (hm : a % 2 ^ i = 0) (hb0 : 0 ≤ b) (hb1 : b < 2 ^ i) (hb2 : b < 4294967296) : bits .or .u32 a b = a + b := by
  obtain ⟨m, rfl⟩ := Int.eq_ofNat_of_zero_le ha0
  obtain ⟨n, rfl⟩ := Int.eq_ofNat_of_zero_le hb0
  rw [u32_or_nat _ _ (by omega) (by omega), nat_join i m n (by exact_mod_cast hm) (by exact_mod_cast hb1)]
  omega

/-- the eight cases of a bit's number -/
theorem eight (s : Nat) (h : s < 8) : s = 0 ∨ s = 1 ∨ s = 2 ∨ s = 3 ∨ s = 4 ∨ s = 5 ∨ s = 6 ∨ s = 7 := by omega
theorem sy_bd (c : Int) (s : Nat) (h : s < 8) : 1 ≤ sy c (s + 1) ∧ sy c (s + 1) < 256 := by
  rcases eight s h with rfl | rfl | rfl | rfl | rfl | rfl | rfl | rfl <;> simp [sy] <;> omega
theorem sy_step (c : Int) (s : Nat) (h : s < 8) : sy c (s + 1) * 2 + c / 2 ^ s % 2 = sy c s := by
  rcases eight s h with rfl | rfl | rfl | rfl | rfl | rfl | rfl | rfl <;> simp [sy] <;> omega
theorem sy_or (c : Int) (s : Nat) (h : s < 8) : bits .or .u32 (sy c (s + 1) * 2) (c / 2 ^ s % 2) = sy c s := by
  have := sy_bd c s h
  rw [or_lo 1 _ _ (by omega) (by omega) (by omega) (by omega) (by omega) (by omega), sy_step c s h]
theorem sy_top (c : Int) : sy c 8 = 1 := by simp [sy]; omega
theorem mt_top (c m : Int) : mt c m 8 = (m != 0) := by
  have e : c % 256 / 256 = m % 256 / 256 := by omega
  simp [mt, e]
theorem mt_step (c m : Int) (s : Nat) (h : s < 8) (hm : mt c m (s + 1) = true) : (c / 2 ^ s % 2 == m / 2 ^ s % 2) = mt c m s := by
  simp only [mt, Bool.and_eq_true, beq_iff_eq, bne_iff_ne] at hm ⊢
  obtain ⟨h1, h2⟩ := hm
  have h3 : (m != 0) = true := by simpa using h1
  rw [h3, Bool.true_and, Bool.eq_iff_iff, beq_iff_eq, beq_iff_eq]
  rcases eight s h with rfl | rfl | rfl | rfl | rfl | rfl | rfl | rfl <;> simp at h2 ⊢ <;> omega
theorem mt_stay (c m : Int) (s : Nat) (h : s < 8) (hm : mt c m (s + 1) = false) : false = mt c m s := by
  cases h' : mt c m s with
  | false => rfl
  | true =>
    simp only [mt, Bool.and_eq_true, beq_iff_eq, bne_iff_ne] at h'
    obtain ⟨h1, h2⟩ := h'
    have h3 : (m != 0) = true := by simpa using h1
    simp only [mt, h3, Bool.true_and, beq_eq_false_iff_ne] at hm
    exfalso
    apply hm
    rcases eight s h with rfl | rfl | rfl | rfl | rfl | rfl | rfl | rfl <;> simp at h2 ⊢ <;> omega
theorem en_bd (c m : Int) (s : Nat) (h : s < 8) : 0 ≤ en c m (s + 1) ∧ en c m (s + 1) < 65536 := by
  have := sy_bd c s h
  unfold en
  simp only [Nat.add_sub_cancel]
  split <;> omega
theorem en_yes (c m : Int) (s : Nat) (h : s < 8) (hm : mt c m (s + 1) = true) : bits .or .u32 (sy c (s + 1)) ((1 + m / 2 ^ s % 2) * 256) = en c m (s + 1) := by
  have := sy_bd c s h
  rw [or_hi 8 _ _ (by omega) (by omega) (by omega) (by omega) (by omega) (by omega)]
  simp [en, hm]
theorem en_no (c m : Int) (s : Nat) (hm : mt c m (s + 1) = false) : sy c (s + 1) = en c m (s + 1) := by
  simp [en, hm]
theorem and1_pow (c : Int) (s : Nat) (h0 : 0 ≤ c) (h1 : c < 4294967296) : bits .and .u32 (c / 2 ^ s) 1 = c / 2 ^ s % 2 := by
  have hp : (0 : Int) < 2 ^ s := Int.pow_pos (by decide)
  have h2 : 0 ≤ c / 2 ^ s := Int.ediv_nonneg h0 (Int.le_of_lt hp)
  have h3 : c / 2 ^ s ≤ c := Int.ediv_le_self _ h0
  exact and1 _ h2 (by omega)
theorem sy_mk (c : Int) (s j : Nat) (h : s + 1 + j = 8) : bits .or .u32 (2 ^ j % 4294967296) (c % 256 / 2 ^ (s + 1)) = sy c (s + 1) := by
  obtain rfl : j = 7 - s := by omega
  unfold sy
  rcases eight s (by omega) with rfl | rfl | rfl | rfl | rfl | rfl | rfl | rfl
  · exact or_lo 7 _ _ (by decide) (by decide) (by decide) (by simp; omega) (by simp; omega) (by simp; omega)
  · exact or_lo 6 _ _ (by decide) (by decide) (by decide) (by simp; omega) (by simp; omega) (by simp; omega)
  · exact or_lo 5 _ _ (by decide) (by decide) (by decide) (by simp; omega) (by simp; omega) (by simp; omega)
  · exact or_lo 4 _ _ (by decide) (by decide) (by decide) (by simp; omega) (by simp; omega) (by simp; omega)
  · exact or_lo 3 _ _ (by decide) (by decide) (by decide) (by simp; omega) (by simp; omega) (by simp; omega)
  · exact or_lo 2 _ _ (by decide) (by decide) (by decide) (by simp; omega) (by simp; omega) (by simp; omega)
  · exact or_lo 1 _ _ (by decide) (by decide) (by decide) (by simp; omega) (by simp; omega) (by simp; omega)
  · exact or_lo 0 _ _ (by decide) (by decide) (by decide) (by simp; omega) (by simp; omega) (by simp; omega)
theorem bit_mod (m : Int) (s : Nat) (h : s < 8) : bits .and .u32 (m % 256 / 2 ^ s) 1 = m / 2 ^ s % 2 := by
  rw [and1_pow (m % 256) s (by omega) (by omega)]
  rcases eight s h with rfl | rfl | rfl | rfl | rfl | rfl | rfl | rfl <;> simp <;> omega
end Go.Proofs.Qxb6000358a.PathMath
