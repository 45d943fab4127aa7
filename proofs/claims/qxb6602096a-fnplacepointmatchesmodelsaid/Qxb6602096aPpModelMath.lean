/-
  PLAIN LISTS for the model 'b1place': what stands at each place of the text that PlacePoint writes.
-/
import Derived.Test.Qxb6602096aPpMath
namespace Go.Proofs.Qxb6602096a

theorem get_padL (d : List Int) (start places i : Nat) (hs : start ≤ d.length) :
    (padL d start places)[i]? = if i < start then d[i]? else if i < start + (places + 1 - (d.length - start)) then some 48 else d[i - (places + 1 - (d.length - start))]? := by
  unfold padL
  rw [List.getElem?_append]
  simp only [List.length_take, Nat.min_eq_left hs]
  by_cases h1 : i < start
  · rw [if_pos h1, if_pos h1, List.getElem?_take, if_pos h1]
  · rw [if_neg h1, if_neg h1, List.getElem?_append, List.length_replicate]
    by_cases h2 : i < start + (places + 1 - (d.length - start))
    · rw [if_pos (by omega), if_pos h2, List.getElem?_replicate, if_pos (by omega)]
    · rw [if_neg (by omega), if_neg h2, List.getElem?_drop]
      congr 1
      omega
theorem get_pointL (e : List Int) (places i : Nat) (hp : places ≤ e.length) :
    (pointL e places)[i]? = if i < e.length - places then e[i]? else if i = e.length - places then some 46 else e[i - 1]? := by
  unfold pointL
  rw [List.getElem?_append]
  simp only [List.length_take, Nat.min_eq_left (by omega : e.length - places ≤ e.length)]
  by_cases h1 : i < e.length - places
  · rw [if_pos h1, if_pos h1, List.getElem?_take, if_pos h1]
  · rw [if_neg h1, if_neg h1]
    by_cases h2 : i = e.length - places
    · rw [if_pos h2, h2, Nat.sub_self]
      rfl
    · rw [if_neg h2]
      obtain ⟨j, hj⟩ : ∃ j, i - (e.length - places) = j + 1 := ⟨i - (e.length - places) - 1, by omega⟩
      rw [hj, List.getElem?_cons_succ, List.getElem?_drop]
      congr 1
      omega

/-- how many digits precede the point -/
def KOf (m places k : Nat) : Prop := (places + 1 ≤ m ∧ m = k + places) ∨ (m < places + 1 ∧ k = 1)

theorem placeL_length (d : List Int) (start places k m : Nat) (hd : d.length = start + m) (hp : 1 ≤ places) (hk : KOf m places k) : (placeL d start places).length = start + k + 1 + places := by
  unfold placeL pointL
  have hl := padL_length d start places (by omega)
  rw [if_neg (by omega)]
  simp only [List.length_append, List.length_take, List.length_cons, List.length_drop]
  rcases hk with ⟨_, _⟩ | ⟨_, _⟩ <;> omega

theorem get_head (d : List Int) (start places k m i : Nat) (hd : d.length = start + m) (hp : 1 ≤ places) (hk : KOf m places k) (hi : i < start) : (placeL d start places)[i]? = d[i]? := by
  unfold placeL
  have hl := padL_length d start places (by omega)
  have h3 : (padL d start places).length = start + k + places := by rcases hk with ⟨_, _⟩ | ⟨_, _⟩ <;> omega
  rw [if_neg (by omega), get_pointL _ _ _ (by omega), if_pos (by omega), get_padL _ _ _ _ (by omega), if_pos hi]
theorem get_point (d : List Int) (start places k m : Nat) (hd : d.length = start + m) (hp : 1 ≤ places) (hk : KOf m places k) : (placeL d start places)[start + k]? = some 46 := by
  unfold placeL
  have hl := padL_length d start places (by omega)
  have h3 : (padL d start places).length = start + k + places := by rcases hk with ⟨_, _⟩ | ⟨_, _⟩ <;> omega
  rw [if_neg (by omega), get_pointL _ _ _ (by omega), if_neg (by omega), if_pos (by omega)]
/-- behind the point, from the right: a digit -/
theorem get_frac (d : List Int) (start places k m j s t : Nat) (hd : d.length = start + m) (hp : 1 ≤ places) (hk : KOf m places k) (hj : j < places) (ht : t + 1 + j = start + k + 1 + places) (hs : s + 1 + j = m) :
    (placeL d start places)[t]? = d[start + s]? := by
  unfold placeL
  have hl := padL_length d start places (by omega)
  have h3 : (padL d start places).length = start + k + places := by rcases hk with ⟨_, _⟩ | ⟨_, _⟩ <;> omega
  rw [if_neg (by omega), get_pointL _ _ _ (by omega), if_neg (by omega), if_neg (by omega), get_padL _ _ _ _ (by omega)]
  rcases hk with ⟨_, _⟩ | ⟨_, _⟩
  · rw [if_neg (by omega), if_neg (by omega)]
    congr 1
    omega
  · rw [if_neg (by omega), if_neg (by omega)]
    congr 1
    omega
/-- behind the point, from the right: no digit is left -/
theorem get_frac0 (d : List Int) (start places k m j t : Nat) (hd : d.length = start + m) (hp : 1 ≤ places) (hk : KOf m places k) (hj : j < places) (ht : t + 1 + j = start + k + 1 + places) (hs : m ≤ j) :
    (placeL d start places)[t]? = some 48 := by
  unfold placeL
  have hl := padL_length d start places (by omega)
  have h3 : (padL d start places).length = start + k + places := by rcases hk with ⟨_, _⟩ | ⟨_, _⟩ <;> omega
  rw [if_neg (by omega), get_pointL _ _ _ (by omega), if_neg (by omega), if_neg (by omega), get_padL _ _ _ _ (by omega)]
  rcases hk with ⟨_, _⟩ | ⟨_, _⟩
  · omega
  · rw [if_neg (by omega), if_pos (by omega)]
/-- ahead of the point -/
theorem get_whole (d : List Int) (start places k m i s t : Nat) (hd : d.length = start + m) (hp : 1 ≤ places) (hk : KOf m places k) (hi : i < k) (ht : t + 1 + i = start + k) (hs : s + 1 + places + i = m) :
    (placeL d start places)[t]? = d[start + s]? := by
  unfold placeL
  have hl := padL_length d start places (by omega)
  have h3 : (padL d start places).length = start + k + places := by rcases hk with ⟨_, _⟩ | ⟨_, _⟩ <;> omega
  rw [if_neg (by omega), get_pointL _ _ _ (by omega), if_pos (by omega), get_padL _ _ _ _ (by omega)]
  rcases hk with ⟨_, _⟩ | ⟨_, _⟩
  · rw [if_neg (by omega), if_neg (by omega)]
    congr 1
    omega
  · omega
theorem get_whole0 (d : List Int) (start places k m i t : Nat) (hd : d.length = start + m) (hp : 1 ≤ places) (hk : KOf m places k) (hi : i < k) (ht : t + 1 + i = start + k) (hs : m ≤ places + i) :
    (placeL d start places)[t]? = some 48 := by
  unfold placeL
  have hl := padL_length d start places (by omega)
  have h3 : (padL d start places).length = start + k + places := by rcases hk with ⟨_, _⟩ | ⟨_, _⟩ <;> omega
  rw [if_neg (by omega), get_pointL _ _ _ (by omega), if_pos (by omega), get_padL _ _ _ _ (by omega)]
  rcases hk with ⟨_, _⟩ | ⟨_, _⟩
  · omega
  · rw [if_neg (by omega), if_pos (by omega)]

/-- Z has X's length and agrees with it below a and from b on. -/
structure Ag (Z X : List Int) (a b : Nat) : Prop where
  len : Z.length = X.length
  low : ∀ i, i < a → Z[i]? = X[i]?
  high : ∀ i, b ≤ i → Z[i]? = X[i]?
theorem Ag.step {Z X : List Int} {a b : Nat} (h : Ag Z X a b) {t : Nat} (ht : t + 1 = b) (hl : t < X.length) {x : Int} (hx : X[t]? = some x) (ha : a ≤ t) : Ag (Z.set t x) X a t := by
  refine ⟨by simpa using h.len, fun i hi => ?_, fun i hi => ?_⟩
  · rw [List.getElem?_set, if_neg (by omega)]
    exact h.low i hi
  · rw [List.getElem?_set]
    by_cases h1 : t = i
    · rw [if_pos h1, if_pos (by rw [h.len]; exact hl), ← h1, hx]
    · rw [if_neg h1]
      exact h.high i (by omega)
theorem Ag.done {Z X : List Int} {a b : Nat} (h : Ag Z X a b) (hb : b ≤ a) : Z = X := by
  apply List.ext_getElem?
  intro i
  by_cases h1 : i < a
  · exact h.low i h1
  · exact h.high i (by omega)
/-- behind the first copy: the head stands -/
theorem Ag.start (d : List Int) (start places k m N : Nat) (hd : d.length = start + m) (hp : 1 ≤ places) (hk : KOf m places k) (hN : N = start + k + 1 + places) :
    Ag (splice (List.replicate N 0) 0 (d.take start)) (placeL d start places) start N := by
  have hX := placeL_length d start places k m hd hp hk
  have hc : (d.take start).length = start := by simp; omega
  have hl : (splice (List.replicate N 0) 0 (d.take start)).length = N := by rw [length_splice _ _ _ (by rw [hc]; simp; omega)]; simp
  refine ⟨by rw [hl, hX, hN], fun i hi => ?_, fun i hi => ?_⟩
  · rw [get_splice _ _ _ _ (by rw [hc]; simp; omega), hc, if_pos (by omega), get_head d start places k m i hd hp hk hi, List.getElem?_take, Nat.sub_zero, if_pos hi]
  · rw [List.getElem?_eq_none (by omega), List.getElem?_eq_none (by omega)]
end Go.Proofs.Qxb6602096a
