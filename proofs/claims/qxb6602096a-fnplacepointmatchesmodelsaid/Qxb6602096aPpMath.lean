/-
  PLAIN LISTS for PlacePoint: no Go in sight ('splice': a stretch of a list laid over, Derived.Laws.CopyOwn).
-/
import Derived.Laws.CopyOwn
namespace Go.Proofs.Qxb6602096a

/-- the digits with zeros ahead of them -/
def padL (d : List Int) (start places : Nat) : List Int := d.take start ++ (List.replicate (places + 1 - (d.length - start)) 48 ++ d.drop start)
/-- the point among them -/
def pointL (d : List Int) (places : Nat) : List Int := d.take (d.length - places) ++ (46 :: d.drop (d.length - places))
/-- what PlacePoint writes -/
def placeL (d : List Int) (start places : Nat) : List Int := if places = 0 then d else pointL (padL d start places) places
/-- k zeros written from 'start' on -/
def zfill (zs : List Int) (start k : Nat) : List Int := zs.take start ++ (List.replicate k 48 ++ zs.drop (start + k))

theorem get_splice (zs cs : List Int) (off i : Nat) (h : off + cs.length ≤ zs.length) :
    (splice zs off cs)[i]? = if off ≤ i ∧ i < off + cs.length then cs[i - off]? else zs[i]? := by
  unfold splice
  rw [List.getElem?_append]
  simp only [List.length_take, Nat.min_eq_left (by omega : off ≤ zs.length)]
  by_cases h1 : i < off
  · rw [if_pos h1, if_neg (by omega), List.getElem?_take, if_pos h1]
  · rw [if_neg h1, List.getElem?_append]
    by_cases h2 : i - off < cs.length
    · rw [if_pos h2, if_pos (by omega)]
    · rw [if_neg h2, if_neg (by omega), List.getElem?_drop]
      congr 1
      omega

theorem get_take_eq {zs d : List Int} {n : Nat} (h : zs.take n = d) (i : Nat) (hi : i < n) : zs[i]? = d[i]? := by
  rw [← h, List.getElem?_take, if_pos hi]

theorem point_list (zs d : List Int) (n p : Nat) (h : zs.take n = d) (hl : n + 1 ≤ zs.length) (hp : p ≤ n) :
    ((splice zs (p + 1) ((zs.drop p).take (n - p))).set p 46).take (n + 1) = d.take p ++ (46 :: d.drop p) := by
  have hd : d.length = n := by rw [← h]; simp; omega
  have hc : ((zs.drop p).take (n - p)).length = n - p := by simp; omega
  apply List.ext_getElem?
  intro i
  rw [List.getElem?_take]
  by_cases h1 : i < n + 1
  · rw [if_pos h1, List.getElem?_set, length_splice _ _ _ (by rw [hc]; omega), get_splice _ _ _ _ (by rw [hc]; omega), hc, List.getElem?_append]
    simp only [List.length_take, Nat.min_eq_left (by omega : p ≤ d.length)]
    by_cases h2 : i < p
    · rw [if_neg (by omega), if_neg (by omega), if_pos h2, get_take_eq h i (by omega), List.getElem?_take, if_pos h2]
    · by_cases h3 : p = i
      · subst h3
        rw [if_pos rfl, if_pos (by omega), if_neg (by omega)]
        simp
      · rw [if_neg h3, if_pos (by omega), if_neg h2]
        obtain ⟨j, rfl⟩ : ∃ j, i = p + 1 + j := ⟨i - (p + 1), by omega⟩
        rw [show p + 1 + j - (p + 1) = j by omega, show p + 1 + j - p = j + 1 by omega, List.getElem?_cons_succ, List.getElem?_take, if_pos (by omega), List.getElem?_drop, List.getElem?_drop, get_take_eq h (p + j) (by omega)]
  · rw [if_neg h1]
    symm
    apply List.getElem?_eq_none
    simp
    omega

theorem zfill_zero (zs : List Int) (start : Nat) : zfill zs start 0 = zs := by simp [zfill]
theorem zfill_length (zs : List Int) (start k : Nat) (h : start + k ≤ zs.length) : (zfill zs start k).length = zs.length := by simp [zfill]; omega
theorem get_zfill (zs : List Int) (start k i : Nat) (h : start + k ≤ zs.length) : (zfill zs start k)[i]? = if start ≤ i ∧ i < start + k then some 48 else zs[i]? := by
  unfold zfill
  rw [List.getElem?_append]
  simp only [List.length_take, Nat.min_eq_left (by omega : start ≤ zs.length)]
  by_cases h1 : i < start
  · rw [if_pos h1, if_neg (by omega), List.getElem?_take, if_pos h1]
  · rw [if_neg h1, List.getElem?_append, List.length_replicate]
    by_cases h2 : i - start < k
    · rw [if_pos h2, if_pos (by omega), List.getElem?_replicate, if_pos h2]
    · rw [if_neg h2, if_neg (by omega), List.getElem?_drop]
      congr 1
      omega
theorem zfill_succ (zs : List Int) (start k : Nat) (h : start + k < zs.length) : (zfill zs start k).set (start + k) 48 = zfill zs start (k + 1) := by
  apply List.ext_getElem?
  intro i
  rw [List.getElem?_set, zfill_length _ _ _ (by omega), get_zfill _ _ _ _ (by omega), get_zfill _ _ _ _ (by omega)]
  by_cases h1 : start + k = i
  · subst h1; rw [if_pos rfl, if_pos h, if_pos (by omega)]
  · rw [if_neg h1]
    by_cases h2 : start ≤ i ∧ i < start + k
    · rw [if_pos h2, if_pos (by omega)]
    · rw [if_neg h2, if_neg (by omega)]

theorem pad_list (zs d : List Int) (n start pad : Nat) (h : zs.take n = d) (hs : start ≤ n) (hl : n + pad ≤ zs.length) :
    (zfill (splice zs (start + pad) ((zs.drop start).take (n - start))) start pad).take (n + pad) = d.take start ++ (List.replicate pad 48 ++ d.drop start) := by
  have hd : d.length = n := by rw [← h]; simp; omega
  have hc : ((zs.drop start).take (n - start)).length = n - start := by simp; omega
  have hsl : (splice zs (start + pad) ((zs.drop start).take (n - start))).length = zs.length := length_splice _ _ _ (by rw [hc]; omega)
  apply List.ext_getElem?
  intro i
  rw [List.getElem?_take]
  by_cases h1 : i < n + pad
  · rw [if_pos h1, get_zfill _ _ _ _ (by rw [hsl]; omega), get_splice _ _ _ _ (by rw [hc]; omega), hc, List.getElem?_append]
    simp only [List.length_take, Nat.min_eq_left (by omega : start ≤ d.length)]
    by_cases h2 : i < start
    · rw [if_neg (by omega), if_neg (by omega), if_pos h2, get_take_eq h i (by omega), List.getElem?_take, if_pos h2]
    · rw [if_neg h2, List.getElem?_append, List.length_replicate]
      by_cases h3 : i < start + pad
      · rw [if_pos (by omega), if_pos (by omega), List.getElem?_replicate, if_pos (by omega)]
      · rw [if_neg (by omega), if_pos (by omega), if_neg (by omega), List.getElem?_take, if_pos (by omega), List.getElem?_drop, List.getElem?_drop, get_take_eq h _ (by omega)]
        congr 1
        omega
  · rw [if_neg h1]
    symm
    apply List.getElem?_eq_none
    simp
    omega

theorem padL_length (d : List Int) (start places : Nat) (hs : start ≤ d.length) : (padL d start places).length = d.length + (places + 1 - (d.length - start)) := by
  simp [padL]; omega
theorem padL_none (d : List Int) (start places : Nat) (h : places + 1 ≤ d.length - start) : padL d start places = d := by
  simp [padL, show places + 1 - (d.length - start) = 0 by omega]
end Go.Proofs.Qxb6602096a
