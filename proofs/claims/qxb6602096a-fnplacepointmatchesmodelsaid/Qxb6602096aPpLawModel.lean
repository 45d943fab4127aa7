/-
  THE WALK of FnPlacePointMatchesModel (5).
-/
import Derived.Test.Qxb6602096aPpModel
namespace Go.Proofs.Qxb6602096a
open Go.RowKit

/-! ### Small facts on worlds -/
theorem own_kept {w w' : World} {ao : Option Addr} {n cap : Nat} {zs : List Int} {row : Option Nat} (h : Own w ao n cap zs) (hg : w.grownBy w' row) (hne : ∀ g, ao = some ⟨g, 0, none⟩ → some g ≠ row) : Own w' ao n cap zs := by
  rcases h with h | ⟨g, rfl, hr, h1, h2, h3⟩
  · exact .inl h
  · exact .inr ⟨g, rfl, hr.kept hg (hne g rfl), h1, h2, h3⟩
theorem src_kept {w w' : World} {ao : Option Addr} {d : List Int} (h : Src w ao d) (hb : Below w.heap.size w w') : Src w' ao d := by
  refine ⟨h.1, fun x hx j hj => ?_⟩
  have hc := h.2 x hx j hj
  rw [hb.cell (World.block_lt_of_cell? w _ hc)]
  exact hc
theorem own_lt {w : World} {ao : Option Addr} {n cap : Nat} {zs : List Int} (h : Own w ao n cap zs) {g : Nat} (hg : ao = some ⟨g, 0, none⟩) : g < w.heap.size := by
  rcases h with ⟨rfl, _⟩ | ⟨g', rfl, hr, _⟩
  · cases hg
  · simp at hg
    subst hg
    exact hr.lt

/-! ### The bound on the bytes -/
set_option maxHeartbeats 400000 in
theorem bytes9_ok (a0 a3 : Option Addr) (len0 cap0 len3 cap3 : Nat) (x y : Value) (w : World) (h : len0 + len3 ≤ 1048576) :
    Calls Try.prog 9 #[.slice a0 len0 cap0, x, y, .slice a3 len3 cap3] w fun e w' => e = .returned (.bool true) ∧ w = w' := by
  go_enter Try.func9, Try.ntmps9
  go_wp2
  go_ret
  exact ⟨rfl, rfl⟩
set_option maxHeartbeats 400000 in
theorem bytes9_no (a0 a3 : Option Addr) (len0 cap0 len3 cap3 : Nat) (x y : Value) (w : World) (h0 : len0 ≤ 9223372036854775807) (h3 : len3 ≤ 9223372036854775807) (h : 1048576 < len0 + len3) :
    Calls Try.prog 9 #[.slice a0 len0 cap0, x, y, .slice a3 len3 cap3] w fun e w' => e = .returned (.bool false) ∧ w = w' := by
  by_cases c0 : 1048576 < len0
  · go_enter Try.func9, Try.ntmps9
    go_wp2
    go_ret
    exact ⟨rfl, rfl⟩
  · by_cases c3 : 1048576 < len3
    · go_enter Try.func9, Try.ntmps9
      go_wp2
      go_ret
      exact ⟨rfl, rfl⟩
    · go_enter Try.func9, Try.ntmps9
      go_wp2
      go_ret
      exact ⟨rfl, rfl⟩

/-! ### Length 0, places 0 -/
theorem same_zero (a b : Option Addr) (ca cb : Nat) (w : World) :
    Calls Try.prog 13 #[.slice a 0 ca, .slice b 0 cb] w fun e w' => e = .returned (.bool true) ∧ Below w.heap.size w w' := by
  go_enter Try.func13, Try.ntmps13
  go_wp2
  refine wp_loop_rounds 1 ?_
  rw [rounds_succ]
  go_wp2
  go_ret
  exact ⟨rfl, Below.refl _ _⟩
theorem place_zero (ao : Option Addr) (n cap : Nat) (start : Int) (w : World) :
    Calls Try.prog 12 #[.slice ao n cap, .int .i64 start, .int .i64 0] w fun e w' => e = .returned (.slice ao n cap) ∧ w = w' := by
  go_enter Try.func12, Try.ntmps12
  go_wp2
  go_ret
  exact ⟨rfl, rfl⟩

/-! ### The law -/
set_option maxHeartbeats 400000 in
theorem model_big (a0 a3 : Option Addr) (len0 cap0 len3 cap3 : Nat) (a1 a2 : Int) (w : World) (h0 : len0 ≤ 9223372036854775807) (h3 : len3 ≤ 9223372036854775807) (h : 1048576 < len0 + len3) :
    Calls Try.prog 5 #[.slice a0 len0 cap0, .int .i64 a1, .int .i64 a2, .slice a3 len3 cap3] w fun e w' => e = .returned (.bool true) ∧ Below w.heap.size w w' := by
  go_enter Try.func5, Try.ntmps5
  go_wp2_with (go_at_call 9; refine (bytes9_no _ _ _ _ _ _ _ _ _ h0 h3 h).mono ?_; rintro e w' ⟨rfl, rfl⟩)
  go_ret
  exact ⟨rfl, Below.refl _ _⟩

set_option maxHeartbeats 400000 in
theorem model_out (a0 a3 : Option Addr) (len0 cap0 len3 cap3 : Nat) (a1 a2 : Int) (w : World) (h : len0 + len3 ≤ 1048576)
    (ho : a1 < 0 ∨ 0 ≤ a1 ∧ (len0 : Int) < a1 ∨ 0 ≤ a1 ∧ a1 ≤ (len0 : Int) ∧ a2 < 0 ∨ 0 ≤ a1 ∧ a1 ≤ (len0 : Int) ∧ 0 ≤ a2 ∧ 65536 < a2) :
    Calls Try.prog 5 #[.slice a0 len0 cap0, .int .i64 a1, .int .i64 a2, .slice a3 len3 cap3] w fun e w' => e = .returned (.bool true) ∧ Below w.heap.size w w' := by
  rcases ho with ho | ⟨o1, o2⟩ | ⟨o1, o2, o3⟩ | ⟨o1, o2, o3, o4⟩
  all_goals
    go_enter Try.func5, Try.ntmps5
    go_wp2_with (go_at_call 9; refine (bytes9_ok _ _ _ _ _ _ _ _ _ h).mono ?_; rintro e w' ⟨rfl, rfl⟩)
    go_ret
    exact ⟨rfl, Below.refl _ _⟩

set_option maxHeartbeats 1000000 in
theorem model_in0 (a0 a3 : Option Addr) (len0 cap0 len3 cap3 start : Nat) (d r : List Int) (w : World) (hd : Src w a0 d) (hr : Src w a3 r) (D : Hid (d.length = len0)) (R : Hid (r.length = len3)) (h : len0 + len3 ≤ 1048576)
    (h1 : start ≤ len0) :
    Calls Try.prog 5 #[.slice a0 len0 cap0, .int .i64 start, .int .i64 0, .slice a3 len3 cap3] w fun e w' => e = .returned (.bool true) ∧ Below w.heap.size w w' := by
  have s1 : ¬ ((len0 : Int) < (start : Int)) := by omega
  have s2 : ¬ ((start : Int) < 0) := by omega
  go_enter Try.func5, Try.ntmps5
  go_wp2_with (go_at_call 9; refine (bytes9_ok _ _ _ _ _ _ _ _ _ h).mono ?_; rintro e w' ⟨rfl, rfl⟩)
  refine (copy_any a0 a3 len0 cap0 len3 cap3 false d r w hd hr D.out R.out (by omega)).mono ?_
  rintro e w1 ⟨ao, cap1, rfl, own1, hg1, hb1⟩
  simp only [Bool.false_eq_true, if_false, Nat.add_zero, List.nil_append] at own1
  go_wp2_with fail
  refine (model_any ao len0 cap1 start 0 (d ++ r) w1 own1 h1 (by omega) (by omega)).mono ?_
  rintro e w2 ⟨g, n, rfl, hn, hg, hrow, hb2⟩
  rw [List.take_left' D.out] at hn hrow
  have hX : placeL d start 0 = d := rfl
  rw [hX] at hn hrow
  obtain rfl : n = len0 := by rw [hn]; exact D.out
  have own2 : Own w2 ao n cap1 (d ++ r) := own_kept own1 (grown_below hb2 none) (by intro g _; simp)
  have hs1 := hb1.size
  have hs2 := hb2.size
  have kk : Below w.heap.size w w2 := hb1.trans (hb2.mono hs1)
  clear hX hn own1 hd hr
  go_wp2_with fail
  refine (place_zero ao n cap1 start w2).mono ?_
  rintro e w' ⟨rfl, rfl⟩
  rcases own2 with ⟨rfl, rfl, rfl, hz⟩ | ⟨g0, rfl, hrow0, _, _, _⟩
  · clear hz
    go_wp2_with fail
    refine (same_zero none (some ⟨g, 0, none⟩) 0 0 w2).mono ?_
    rintro e w3 ⟨rfl, hb3⟩
    go_wp2
    go_ret
    exact ⟨rfl, kk.trans (hb3.mono (by omega))⟩
  · have b1 : ∀ i, i < n → w2.cell? ⟨g, i, none⟩ = some (.int .u8 (d[i]?.getD 0)) := fun i hi => hrow.cell (by rw [D.out]; exact hi)
    have b2 : ∀ i, i < n → w2.cell? ⟨g0, i, none⟩ = some (.int .u8 (d[i]?.getD 0)) := fun i hi => by
      rw [hrow0.cell (by simp; have := D.out; omega), List.getElem?_append_left (by rw [D.out]; exact hi)]
    clear hrow hrow0
    go_wp2_with fail
    refine (same_any g0 g n cap1 n d (by omega) w2 b2 b1).mono ?_
    rintro e w3 ⟨rfl, hb3⟩
    go_wp2
    go_ret
    exact ⟨rfl, kk.trans (hb3.mono (by omega))⟩

set_option maxHeartbeats 1000000 in
theorem model_in1 (a0 a3 : Option Addr) (len0 cap0 len3 cap3 start places : Nat) (d r : List Int) (w : World) (hd : Src w a0 d) (hr : Src w a3 r) (D : Hid (d.length = len0)) (R : Hid (r.length = len3)) (h : len0 + len3 ≤ 1048576)
    (h1 : start ≤ len0) (h2 : 1 ≤ places) (h3 : places ≤ 65536) :
    Calls Try.prog 5 #[.slice a0 len0 cap0, .int .i64 start, .int .i64 places, .slice a3 len3 cap3] w fun e w' => e = .returned (.bool true) ∧ Below w.heap.size w w' := by
  go_enter Try.func5, Try.ntmps5
  go_wp2_with (go_at_call 9; refine (bytes9_ok _ _ _ _ _ _ _ _ _ h).mono ?_; rintro e w' ⟨rfl, rfl⟩)
  refine (copy_any a0 a3 len0 cap0 len3 cap3 false d r w hd hr D.out R.out (by omega)).mono ?_
  rintro e w1 ⟨ao, cap1, rfl, own1, hg1, hb1⟩
  simp only [Bool.false_eq_true, if_false, Nat.add_zero, List.nil_append] at own1
  go_wp2_with fail
  refine (model_any ao len0 cap1 start places (d ++ r) w1 own1 h1 (by omega) (by omega)).mono ?_
  rintro e w2 ⟨g, n, rfl, hn, hg, hrow, hb2⟩
  obtain ⟨X, hX⟩ : ∃ X, X = placeL ((d ++ r).take len0) start places := ⟨_, rfl⟩
  rw [← hX] at hn hrow
  have hs1 := hb1.size
  have hs2 := hb2.size
  have own2 : Own w2 ao len0 cap1 (d ++ r) := own_kept own1 (grown_below hb2 none) (by intro g _; simp)
  have HN : Hid (n = X.length) := hn
  have HX : Hid (X = placeL ((d ++ r).take len0) start places) := hX
  clear hn hX
  go_wp2_with fail
  refine (place_any ao len0 cap1 start places (d ++ r) w2 own2 h1 h2 (by omega) (by omega)).mono ?_
  rintro e w3 ⟨g1, n1, capr1, zs1, rfl, o1, row1, m1, x1, l1, t1, k1⟩
  rw [← HX.out] at t1
  have hblk : ∀ k, ao.map (·.block) = some k → w.heap.size ≤ k ∧ k < w1.heap.size := by
    intro k hk
    cases ao with
    | none => simp at hk
    | some x =>
      rcases own1 with ⟨h, _⟩ | ⟨g2, hx, hrow, _⟩
      · cases h
      · have := hg1 g2 hx
        have := hrow.lt
        rw [hx] at hk
        simp at hk
        omega
  have row3 : Row w3 g X := by
    refine hrow.kept k1 ?_
    intro e
    have := hblk g e.symm
    omega
  have hn1 : n1 = n := by
    have : (zs1.take n1).length = n := by rw [t1]; exact HN.out.symm
    simp at this
    omega
  subst hn1
  have b1 : ∀ i, i < n1 → w3.cell? ⟨g, i, none⟩ = some (.int .u8 (X[i]?.getD 0)) := fun i hi => row3.cell (by rw [← HN.out]; exact hi)
  have b2 : ∀ i, i < n1 → w3.cell? ⟨g1, i, none⟩ = some (.int .u8 (X[i]?.getD 0)) := fun i hi => by
    rw [row1.cell (by omega), get_take_eq t1 i hi]
  have hs3 := k1.size
  have kk : Below w.heap.size w w3 := by
    have f1 : Below w.heap.size w w2 := hb1.trans (hb2.mono hs1)
    exact f1.trans (below_grown k1 (by omega) (fun k hk => (hblk k hk).1))
  unfold maxLen at x1
  clear t1 l1 row1 row3 hrow k1 own1 own2 o1 hd hr hg1 hblk HX HN D R
  go_wp2_with fail
  refine (same_any g1 g n1 capr1 n1 X (by omega) w3 b2 b1).mono ?_
  rintro e w4 ⟨rfl, hb4⟩
  go_wp2
  go_ret
  exact ⟨rfl, kk.trans (hb4.mono (by omega))⟩

theorem model_in (a0 a3 : Option Addr) (len0 cap0 len3 cap3 start places : Nat) (d r : List Int) (w : World) (hd : Src w a0 d) (hr : Src w a3 r) (D : Hid (d.length = len0)) (R : Hid (r.length = len3)) (h : len0 + len3 ≤ 1048576)
    (h1 : start ≤ len0) (h3 : places ≤ 65536) :
    Calls Try.prog 5 #[.slice a0 len0 cap0, .int .i64 start, .int .i64 places, .slice a3 len3 cap3] w fun e w' => e = .returned (.bool true) ∧ Below w.heap.size w w' := by
  by_cases h0 : places = 0
  · subst h0
    exact model_in0 a0 a3 len0 cap0 len3 cap3 start d r w hd hr D R h h1
  · exact model_in1 a0 a3 len0 cap0 len3 cap3 start places d r w hd hr D R h h1 (by omega) h3
end Go.Proofs.Qxb6602096a
