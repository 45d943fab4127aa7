/-
  THE WALK of FnPlacePointOneMoreZeroOneMorePlace (6).
-/
import Derived.Test.Qxb6602096aPpCopy
namespace Go.Proofs.Qxb6602096a
open Go.RowKit

/-! ### Plain lists -/
theorem padL_more (d : List Int) (start places : Nat) (hs : start ≤ d.length) : padL (d ++ [48]) start (places + 1) = padL d start places ++ [48] := by
  unfold padL
  rw [List.take_append_of_le_length hs, List.drop_append_of_le_length hs, List.length_append, List.length_singleton, show places + 1 + 1 - (d.length + 1 - start) = places + 1 - (d.length - start) by omega]
  simp
theorem pointL_more (e : List Int) (places : Nat) (hp : places ≤ e.length) : pointL (e ++ [48]) (places + 1) = pointL e places ++ [48] := by
  unfold pointL
  rw [List.length_append, List.length_singleton, show e.length + 1 - (places + 1) = e.length - places by omega, List.take_append_of_le_length (by omega), List.drop_append_of_le_length (by omega)]
  simp
theorem placeL_more (d : List Int) (start places : Nat) (hs : start ≤ d.length) (hp : 1 ≤ places) : placeL (d ++ [48]) start (places + 1) = placeL d start places ++ [48] := by
  unfold placeL
  rw [if_neg (by omega), if_neg (by omega), padL_more d start places hs, pointL_more _ _ (by rw [padL_length _ _ _ hs]; omega)]

theorem placeL_le (d : List Int) (start places : Nat) (hs : start ≤ d.length) : (placeL d start places).length ≤ d.length + places + 2 := by
  unfold placeL
  split
  · omega
  · unfold pointL
    have := padL_length d start places hs
    simp
    omega

/-! ### Small facts on worlds -/
theorem own_kept {w w' : World} {ao : Option Addr} {n cap : Nat} {zs : List Int} {row : Option Nat} (h : Own w ao n cap zs) (hg : w.grownBy w' row) (hne : ∀ g, ao = some ⟨g, 0, none⟩ → some g ≠ row) : Own w' ao n cap zs := by
  rcases h with h | ⟨g, rfl, hr, h1, h2, h3⟩
  · exact .inl h
  · exact .inr ⟨g, rfl, hr.kept hg (hne g rfl), h1, h2, h3⟩
theorem src_kept {w w' : World} {ao : Option Addr} {d : List Int} (h : Src w ao d) (hb : Below w.heap.size w w') : Src w' ao d := by
  refine ⟨h.1, fun x hx j hj => ?_⟩
  have hc := h.2 x hx j hj
  rw [hb.cell (World.block_lt_of_cell? w _ hc)]
  exact hc
theorem own_lt {w : World} {ao : Option Addr} {n cap : Nat} {zs : List Int} (h : Own w ao n cap zs) {g : Nat} (hg : ao = some ⟨g, 0, none⟩) : g < w.heap.size := by
  rcases h with ⟨rfl, _⟩ | ⟨g', rfl, hr, _⟩
  · cases hg
  · simp at hg
    subst hg
    exact hr.lt

/-! ### The bound on the bytes -/
set_option maxHeartbeats 400000 in
theorem bytes14_ok (a0 a3 : Option Addr) (len0 cap0 len3 cap3 : Nat) (x y : Value) (w : World) (h : len0 + len3 ≤ 1048576) :
    Calls Try.prog 14 #[.slice a0 len0 cap0, x, y, .slice a3 len3 cap3] w fun e w' => e = .returned (.bool true) ∧ w = w' := by
  go_enter Try.func14, Try.ntmps14
  go_wp2
  go_ret
  exact ⟨rfl, rfl⟩
set_option maxHeartbeats 400000 in
theorem bytes14_no (a0 a3 : Option Addr) (len0 cap0 len3 cap3 : Nat) (x y : Value) (w : World) (h0 : len0 ≤ 9223372036854775807) (h3 : len3 ≤ 9223372036854775807) (h : 1048576 < len0 + len3) :
    Calls Try.prog 14 #[.slice a0 len0 cap0, x, y, .slice a3 len3 cap3] w fun e w' => e = .returned (.bool false) ∧ w = w' := by
  by_cases c0 : 1048576 < len0
  · go_enter Try.func14, Try.ntmps14
    go_wp2
    go_ret
    exact ⟨rfl, rfl⟩
  · by_cases c3 : 1048576 < len3
    · go_enter Try.func14, Try.ntmps14
      go_wp2
      go_ret
      exact ⟨rfl, rfl⟩
    · go_enter Try.func14, Try.ntmps14
      go_wp2
      go_ret
      exact ⟨rfl, rfl⟩

/-! ### The law -/
set_option maxHeartbeats 400000 in
theorem more_big (a0 a3 : Option Addr) (len0 cap0 len3 cap3 : Nat) (a1 a2 : Int) (w : World) (h0 : len0 ≤ 9223372036854775807) (h3 : len3 ≤ 9223372036854775807) (h : 1048576 < len0 + len3) :
    Calls Try.prog 6 #[.slice a0 len0 cap0, .int .i64 a1, .int .i64 a2, .slice a3 len3 cap3] w fun e w' => e = .returned (.bool true) ∧ Below w.heap.size w w' := by
  go_enter Try.func6, Try.ntmps6
  go_wp2_with (go_at_call 14; refine (bytes14_no _ _ _ _ _ _ _ _ _ h0 h3 h).mono ?_; rintro e w' ⟨rfl, rfl⟩)
  go_ret
  exact ⟨rfl, Below.refl _ _⟩

set_option maxHeartbeats 400000 in
theorem more_out (a0 a3 : Option Addr) (len0 cap0 len3 cap3 : Nat) (a1 a2 : Int) (w : World) (h : len0 + len3 ≤ 1048576)
    (ho : a1 < 0 ∨ 0 ≤ a1 ∧ (len0 : Int) < a1 ∨ 0 ≤ a1 ∧ a1 ≤ (len0 : Int) ∧ a2 < 1 ∨ 0 ≤ a1 ∧ a1 ≤ (len0 : Int) ∧ 1 ≤ a2 ∧ 65536 < a2) :
    Calls Try.prog 6 #[.slice a0 len0 cap0, .int .i64 a1, .int .i64 a2, .slice a3 len3 cap3] w fun e w' => e = .returned (.bool true) ∧ Below w.heap.size w w' := by
  rcases ho with ho | ⟨o1, o2⟩ | ⟨o1, o2, o3⟩ | ⟨o1, o2, o3, o4⟩
  all_goals
    go_enter Try.func6, Try.ntmps6
    go_wp2_with (go_at_call 14; refine (bytes14_ok _ _ _ _ _ _ _ _ _ h).mono ?_; rintro e w' ⟨rfl, rfl⟩)
    go_ret
    exact ⟨rfl, Below.refl _ _⟩

set_option maxHeartbeats 1000000 in
theorem more_in (a0 a3 : Option Addr) (len0 cap0 len3 cap3 start places : Nat) (d r : List Int) (w : World) (hd : Src w a0 d) (hr : Src w a3 r) (D : Hid (d.length = len0)) (R : Hid (r.length = len3)) (h : len0 + len3 ≤ 1048576)
    (h1 : start ≤ len0) (h2 : 1 ≤ places) (h3 : places ≤ 65536) :
    Calls Try.prog 6 #[.slice a0 len0 cap0, .int .i64 start, .int .i64 places, .slice a3 len3 cap3] w fun e w' => e = .returned (.bool true) ∧ Below w.heap.size w w' := by
  go_enter Try.func6, Try.ntmps6
  go_wp2_with (go_at_call 14; refine (bytes14_ok _ _ _ _ _ _ _ _ _ h).mono ?_; rintro e w' ⟨rfl, rfl⟩)
  refine (copy_zero a0 a3 len0 cap0 len3 cap3 (len0 + 1) (len0 + 1 + len3) d r w hd hr D R (by omega) (by omega) (by omega)).mono ?_
  rintro e w1 ⟨ao1, cap1, rfl, own1, hg1, hb1⟩
  go_wp2_with fail
  refine (copy_any a0 a3 len0 cap0 len3 cap3 false d r w1 (src_kept hd hb1) (src_kept hr hb1) D.out R.out (by omega)).mono ?_
  rintro e w2 ⟨ao2, cap2, rfl, own2, hg2, hb2⟩
  simp only [Bool.false_eq_true, if_false, Nat.add_zero, List.nil_append] at own2
  have own12 : Own w2 ao1 (len0 + 1) cap1 (d ++ 48 :: r) := own_kept own1 (grown_below hb2 none) (by intro g _; simp)
  go_wp2_with fail
  refine (place_any ao2 len0 cap2 start places (d ++ r) w2 own2 h1 h2 (by omega) (by omega)).mono ?_
  rintro e w3 ⟨g1, n1, capr1, zs1, rfl, o1, row1, m1, x1, l1, t1, k1⟩
  have hs1 := hb1.size
  have hs2 := hb2.size
  have hs3 := k1.size
  have own13 : Own w3 ao1 (len0 + 1) cap1 (d ++ 48 :: r) := by
    refine own_kept own12 k1 ?_
    intro g hg e
    have hlt := own_lt own1 hg
    cases ao2 with
    | none => simp at e
    | some x =>
      rcases own2 with ⟨h, _⟩ | ⟨g2, hx, _⟩
      · cases h
      · have := hg2 g2 hx
        rw [hx] at e
        simp at e
        omega
  have T1 : Hid (zs1.take n1 = placeL ((d ++ r).take len0) start places) := t1
  have L1 : Hid (zs1.length = capr1) := l1
  clear t1 l1
  go_wp2_with fail
  refine (place_any ao1 (len0 + 1) cap1 start (places + 1) (d ++ 48 :: r) w3 own13 (by omega) (by omega) (by omega) (by omega)).mono ?_
  rintro e w4 ⟨g2, n2, capr2, zs2, rfl, o2, row2, m2, x2, l2, t2, k2⟩
  have row14 : Row w4 g1 zs1 := by
    refine row1.kept k2 ?_
    intro e
    cases ao1 with
    | none => simp at e
    | some x =>
      rcases own1 with ⟨h, _⟩ | ⟨gL, hx, hrow, _⟩
      · cases h
      · have hlt := hrow.lt
        rw [hx] at e
        simp at e
        rcases o1 with o1 | o1
        · have := hg2 g1 o1
          omega
        · omega
  obtain ⟨xs, hxs⟩ : ∃ xs, xs = placeL d start places := ⟨_, rfl⟩
  have e1 : zs1.take n1 = xs := by rw [T1.out, List.take_left' D.out, hxs]
  have e2 : zs2.take n2 = xs ++ [48] := by
    rw [t2, show d ++ 48 :: r = (d ++ [48]) ++ r by simp, List.take_left' (by simp; exact D.out), placeL_more d start places (by rw [D.out]; exact h1) h2, hxs]
  have hx1 : xs.length = n1 := by rw [← e1]; simp; have := L1.out; omega
  have hx2 : n2 = n1 + 1 := by
    have : (zs2.take n2).length = n1 + 1 := by rw [e2]; simp [hx1]
    simp at this
    omega
  have hxb : n1 ≤ 4194304 := by rw [← hx1, hxs]; have := placeL_le d start places (by rw [D.out]; exact h1); have := D.out; omega
  have b1 : ∀ i, i < n1 → w4.cell? ⟨g1, i, none⟩ = some (.int .u8 (xs[i]?.getD 0)) := fun i hi => by
    rw [row14.cell (by have := L1.out; omega), get_take_eq e1 i hi]
  have b2 : ∀ i, i < n1 → w4.cell? ⟨g2, i, none⟩ = some (.int .u8 (xs[i]?.getD 0)) := fun i hi => by
    rw [row2.cell (by omega), get_take_eq e2 i (by omega), List.getElem?_append_left (by omega)]
  have b3 : w4.cell? ⟨g2, n1, none⟩ = some (.int .u8 48) := by
    rw [row2.cell (by omega), get_take_eq e2 n1 (by omega), List.getElem?_append_right (by omega), hx1]
    simp
  have hlt2 := row2.lt
  have kk : Below w.heap.size w w4 := by
    have f1 : Below w.heap.size w w2 := hb1.trans (hb2.mono hs1)
    have f2 : Below w.heap.size w2 w3 := below_grown k1 (by omega) (by
      intro g hg
      cases ao2 with
      | none => simp at hg
      | some x =>
        rcases own2 with ⟨h, _⟩ | ⟨g2, hx, _⟩
        · cases h
        · have := hg2 g2 hx
          rw [hx] at hg
          simp at hg
          omega)
    have f3 : Below w.heap.size w3 w4 := below_grown k2 (by omega) (by
      intro g hg
      cases ao1 with
      | none => simp at hg
      | some x =>
        rcases own1 with ⟨h, _⟩ | ⟨g2, hx, _⟩
        · cases h
        · have := hg1 g2 hx
          rw [hx] at hg
          simp at hg
          omega)
    exact (f1.trans f2).trans f3
  have hs4 := k2.size
  have m2' : (n1 : Int) + 1 ≤ (capr2 : Int) := by omega
  have x2' := x2
  unfold maxLen at x2'
  subst hx2
  clear e1 e2 hx1 hxs T1 L1 l2 t2 row1 row2 row14 k1 k2 own1 own2 own12 own13 o1 o2 hd hr hg1 hg2 D R
  go_wp2_with fail
  refine (same_any g2 g1 n1 capr2 capr1 xs (by omega) w4 b2 b1).mono ?_
  rintro e w5 ⟨rfl, hb5⟩
  have b5 : w5.cell? ⟨g2, n1, none⟩ = some (.int .u8 48) := by rw [hb5.cell (p := ⟨g2, n1, none⟩) hlt2]; exact b3
  have b6 : (n1 : Int) < (n1 : Int) + 1 := by omega
  go_wp2
  go_ret
  exact ⟨rfl, kk.trans (hb5.mono (by omega))⟩
end Go.Proofs.Qxb6602096a
