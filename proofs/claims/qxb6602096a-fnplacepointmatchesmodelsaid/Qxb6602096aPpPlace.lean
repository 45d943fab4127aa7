/-
  THE WALK of 'PlacePoint' (12).
-/
import Derived.Test.Qxb6602096aPpGrow
import Derived.Test.Qxb6602096aPpMath
namespace Go.Proofs.Qxb6602096a
open Go.RowKit

/-- What PlacePoint leaves: its text in a row of its own or in dst's; of what was there nothing has turned but dst's row. -/
def Placed (w : World) (ao : Option Addr) (d : List Int) (start places : Nat) (e : Ending) (w' : World) : Prop :=
  ∃ g' n' cap' zs', e = .returned (.slice (some ⟨g', 0, none⟩) n' cap') ∧ (ao = some ⟨g', 0, none⟩ ∨ w.heap.size ≤ g') ∧ Row w' g' zs' ∧ n' ≤ cap' ∧ cap' ≤ maxLen ∧ zs'.length = cap' ∧
    zs'.take n' = placeL d start places ∧ w.grownBy w' (ao.map (·.block))

theorem addr_add (g o j : Nat) : (⟨g, o, none⟩ : Addr).add j = ⟨g, o + j, none⟩ := by unfold Addr.add; split <;> simp_all
theorem own_row {ao : Option Addr} {w : World} {g : Nat} (h : ao = some ⟨g, 0, none⟩ ∨ w.heap.size ≤ g) : some g = ao.map (·.block) ∨ w.heap.size ≤ g := by
  rcases h with rfl | h
  · exact .inl rfl
  · exact .inr h
theorem own_len {w : World} {ao : Option Addr} {n cap : Nat} {zs : List Int} (h : Own w ao n cap zs) : n ≤ zs.length := by
  rcases h with ⟨_, rfl, rfl, rfl⟩ | ⟨g, _, _, h, _, h'⟩
  · simp
  · omega

set_option maxHeartbeats 400000 in
theorem place_nopad (ao : Option Addr) (n cap start places p : Nat) (zs : List Int) (w : World) (hown : Own w ao n cap zs) (hs : start ≤ n) (hp : 1 ≤ places) (hn : n ≤ 4194304) (hpb : places ≤ 4194304)
    (hpad : places + 1 ≤ n - start) (hpp : Hid (n = p + places)) :
    Calls Try.prog 12 #[.slice ao n cap, .int .i64 start, .int .i64 places] w (Placed w ao (zs.take n) start places) := by
  have e1 : (n : Int) - (places : Int) = (p : Int) := by have := hpp.out; omega
  have p1 : (p : Int) + 1 ≤ (n : Int) := by have := hpp.out; omega
  have p2 : p + 1 ≤ n := by have := hpp.out; omega
  have hzl := own_len hown
  go_enter Try.func12, Try.ntmps12
  go_wp2_with fail
  refine (grow_any ao n cap 1 zs w hown (by omega) (by omega)).mono ?_
  rintro e w1 ⟨g', n', cap', zs', v2, rfl, rfl, h1, h2, h3, h4, h5, h6, h7⟩
  have h4' := h4
  unfold maxLen at h4'
  have h3' : (n : Int) + 1 ≤ (cap' : Int) := by omega
  have H6 : Hid (zs'.take n = zs.take n) := h6
  have H5 : Hid (zs'.length = cap') := h5
  clear h5 h6
  go_wp2
  have hw1 : IntKind.i64.wrap ((p : Int) + 1) = (p : Int) + 1 := by rw [IntKind.wrap_i64]; omega
  have hw2 : IntKind.i64.wrap (n : Int) = (n : Int) := by rw [IntKind.wrap_i64]; omega
  have t1 : ((p : Int) + 1).toNat = p + 1 := by omega
  have t2 : (0 : Int) ≤ (p : Int) + 1 := by omega
  have t3 : p ≤ n := by omega
  have t4 : ¬ cap' = p + 1 := by omega
  have t5 : ¬ cap' = p := by omega
  have t6 : n ≤ cap' := by omega
  have t7 : n + 1 - (p + 1) = n - p := by omega
  have l1 : Hid (((zs'.drop p).take (n - p)).length = n - p) := by have := H5.out; show _ = _; simp; omega
  have s1 : Hid (((zs'.drop p).take (n - p)).length = Nat.min (n - p) (n - p)) := by rw [l1.out]; exact (Nat.min_self _).symm
  have s2 : Hid (∀ j, j < ((zs'.drop p).take (n - p)).length → w1.cell? ((⟨g', p, none⟩ : Addr).add j) = some (.int .u8 (((zs'.drop p).take (n - p))[j]?.getD 0))) := by
    intro j hj
    rw [l1.out] at hj
    rw [addr_add, h2.cell (by have := H5.out; omega), List.getElem?_take, if_pos hj, List.getElem?_drop]
  have s3 : Hid (p + 1 + ((zs'.drop p).take (n - p)).length ≤ zs'.length) := by show _ ≤ _; rw [l1.out, H5.out]; omega
  go_region_law (refine step_copy_u8 rfl (.tmp 60) (.tmp 66) rfl (some ⟨g', p + 1, none⟩) (some ⟨g', p, none⟩) (n - p) (cap' - (p + 1)) (n - p) (cap' - p) (by simp [Act.eval, Act.put]) (by simp [Act.eval, Act.put]) g' (p + 1) zs' ((zs'.drop p).take (n - p)) (by exact h2) s1.out (fun _ => ⟨rfl, _, rfl, by exact s2.out⟩) s3.out ?_; intro w2 hr2 hg2)
  have hl2 : Hid ((splice zs' (p + 1) ((zs'.drop p).take (n - p))).length = cap') := by show _ = _; rw [length_splice _ _ _ s3.out]; exact H5.out
  have c1 := hr2.cell (i := p) (by rw [hl2.out]; omega)
  have c2 := hr2.free p
  have c3 : (p : Int) < (n : Int) + 1 := by omega
  go_wp2
  go_ret
  have hlen : (zs.take n).length = n := by simp; omega
  refine ⟨g', n + 1, cap', _, rfl, h1, hr2.set p 46, h3, h4, by simpa using hl2.out, ?_, ?_⟩
  · rw [point_list zs' (zs.take n) n p H6.out (by rw [H5.out]; exact h3) (by omega)]
    unfold placeL pointL
    rw [if_neg (by omega), padL_none _ _ _ (by rw [hlen]; exact hpad), hlen, show n - places = p by have := hpp.out; omega]
  · exact grown_own (grown_own (grown_below h7.drew _) hg2 (own_row h1)) (grown_setCell _ _ _ _) (own_row h1)

set_option maxHeartbeats 1000000 in
theorem place_pad (ao : Option Addr) (n cap start places pad : Nat) (zs : List Int) (w : World) (hown : Own w ao n cap zs) (hs : start ≤ n) (hp : 1 ≤ places) (hn : n ≤ 4194304) (hpb : places ≤ 4194304)
    (hpad : n - start < places + 1) (hpp : Hid (n + pad = places + 1 + start)) :
    Calls Try.prog 12 #[.slice ao n cap, .int .i64 start, .int .i64 places] w (Placed w ao (zs.take n) start places) := by
  have e1 : (places : Int) + 1 - ((n : Int) - (start : Int)) = (pad : Int) := by have := hpp.out; omega
  have p1 : 0 < pad := by have := hpp.out; omega
  have p2 : pad ≤ places + 1 := by have := hpp.out; omega
  have hzl := own_len hown
  go_enter Try.func12, Try.ntmps12
  go_wp2_with fail
  refine (grow_any ao n cap pad zs w hown p1 (by omega)).mono ?_
  rintro e w1 ⟨g1, n1, cap1, zs1, v2, rfl, hn1, h1, h2, h3, h4, h5, h6, h7⟩
  have h4' := h4
  unfold maxLen at h4'
  have q1 : (n1 : Int) = (n : Int) + (pad : Int) := by omega
  have q2 : n1 ≤ cap1 := by omega
  have N1 : Hid (n1 = n + pad) := hn1
  have Q1 : Hid ((n1 : Int) = (n : Int) + (pad : Int)) := q1
  have q3 : (start : Int) + (pad : Int) ≤ (n1 : Int) := by omega
  have H6 : Hid (zs1.take n = zs.take n) := h6
  have H5 : Hid (zs1.length = cap1) := h5
  clear h5 h6 hn1 q1
  go_wp2
  have hw1 : IntKind.i64.wrap ((start : Int) + (pad : Int)) = (start : Int) + (pad : Int) := by rw [IntKind.wrap_i64]; omega
  have t1 : ((start : Int) + (pad : Int)).toNat = start + pad := by omega
  have t2 : (0 : Int) ≤ (start : Int) + (pad : Int) := by omega
  have t3 : start ≤ n1 := by omega
  have t5 : ¬ cap1 = start := by omega
  have l1 : Hid (((zs1.drop start).take (n - start)).length = n - start) := by have := H5.out; have := N1.out; show _ = _; simp; omega
  have s1 : Hid (((zs1.drop start).take (n - start)).length = Nat.min (n1 - start) (n1 - (start + pad))) := by rw [l1.out]; have := N1.out; show _ = min _ _; omega
  have s2 : Hid (∀ j, j < ((zs1.drop start).take (n - start)).length → w1.cell? ((⟨g1, start, none⟩ : Addr).add j) = some (.int .u8 (((zs1.drop start).take (n - start))[j]?.getD 0))) := by
    intro j hj
    rw [l1.out] at hj
    rw [addr_add, h2.cell (by have := H5.out; have := N1.out; omega), List.getElem?_take, if_pos hj, List.getElem?_drop]
  have s3 : Hid (start + pad + ((zs1.drop start).take (n - start)).length ≤ zs1.length) := by show _ ≤ _; rw [l1.out, H5.out]; have := N1.out; omega
  have s4 : Hid (0 < ((zs1.drop start).take (n - start)).length → ¬ cap1 = start + pad) := by intro h; rw [l1.out] at h; have := N1.out; omega
  obtain ⟨dp, hdp⟩ : ∃ dp, (if cap1 = start + pad then some (⟨g1, 0, none⟩ : Addr) else some ⟨g1, start + pad, none⟩) = dp := ⟨_, rfl⟩
  have DP : Hid ((if cap1 = start + pad then some (⟨g1, 0, none⟩ : Addr) else some ⟨g1, start + pad, none⟩) = dp) := hdp
  go_region_law (refine step_copy_u8 rfl (.tmp 32) (.tmp 35) rfl dp (some ⟨g1, start, none⟩) (n1 - (start + pad)) (cap1 - (start + pad)) (n1 - start) (cap1 - start) (by simp [Act.eval, Act.put]) (by simp [Act.eval, Act.put]) g1 (start + pad) zs1 ((zs1.drop start).take (n - start)) (by exact h2) s1.out (fun h => ⟨DP.out.symm.trans (if_neg (s4.out h)), _, rfl, by exact s2.out⟩) s3.out ?_; intro w2 hr2 hg2)
  obtain ⟨zs2, hz2⟩ : ∃ z, z = splice zs1 (start + pad) ((zs1.drop start).take (n - start)) := ⟨_, rfl⟩
  have hl2 : Hid (zs2.length = cap1) := by show _ = _; rw [hz2, length_splice _ _ _ s3.out]; exact H5.out
  rw [← hz2] at hr2
  have Z2 : Hid (zs2 = splice zs1 (start + pad) ((zs1.drop start).take (n - start))) := hz2
  clear hz2
  have k1 : Hid (w.grownBy w2 (ao.map (·.block))) := grown_own (grown_below h7.drew _) hg2 (own_row h1)
  clear hdp DP hw1 t1 t2 t5 s1 s2 s3 s4 hg2 h2 h7 hown
  go_wp2
  go_loopw [38] (fun i wr => ∃ k : Nat, k ≤ pad ∧ i = .int .i64 k ∧ Row wr g1 (zfill zs2 start k) ∧ w2.grownBy wr (some g1)) (fun i _ => pad - (intOf i).toNat)
  case atStart => exact ⟨0, Nat.zero_le _, rfl, by rw [zfill_zero]; exact hr2, grown_refl _ _⟩
  case round =>
    obtain ⟨k, hk, rfl, hrk, hgk⟩ := hrel
    by_cases hlt : k < pad
    · have hi : (start : Int) + (k : Int) < (n1 : Int) := by omega
      have hfl : (zfill zs2 start k).length = cap1 := by rw [zfill_length _ _ _ (by rw [hl2.out]; omega)]; exact hl2.out
      have c1 := hrk.cell (i := start + k) (by rw [hfl]; omega)
      have c2 := hrk.free (start + k)
      have R := hrk.set (start + k) 48
      rw [zfill_succ _ _ _ (by rw [hl2.out]; omega)] at R
      clear hfl
      go_wp2
      go_roundw
      case rel => exact ⟨k + 1, by omega, by go_num, R, grown_trans hgk (grown_setCell _ _ _ _)⟩
      case measure => simp [intOf]; omega
    · have hkp : k = pad := by omega
      rw [hkp] at hrk
      clear hlt
      have ho : Own wr (some ⟨g1, 0, none⟩) n1 cap1 (zfill zs2 start pad) := .inr ⟨g1, rfl, hrk, q2, h4, by rw [zfill_length _ _ _ (by rw [hl2.out]; omega)]; exact hl2.out⟩
      have HKP : Hid (k = pad) := hkp
      have hkp' : ¬ (k : Int) < (pad : Int) := by omega
      clear hkp hrk
      obtain ⟨p, hpe⟩ : ∃ p, p = start + 1 := ⟨_, rfl⟩
      have e2 : (n1 : Int) - (places : Int) = (p : Int) := by have := hpp.out; have := N1.out; omega
      have p3 : (p : Int) + 1 ≤ (n1 : Int) := by have := hpp.out; have := N1.out; omega
      have p4 : p + 1 ≤ n1 := by omega
      have n1b : n1 ≤ 8388610 := by have := N1.out; omega
      have PE : Hid (p = start + 1) := hpe
      clear hpe
      go_wp2_with fail
      refine (grow_any (some ⟨g1, 0, none⟩) n1 cap1 1 (zfill zs2 start pad) wr ho (by omega) (by omega)).mono ?_
      rintro e w3 ⟨g', n', cap', zs', v3, rfl, rfl, h1', h2', h3', h4'', h5', h6', h7'⟩
      have m4 := h4''
      unfold maxLen at m4
      have m3 : (n1 : Int) + 1 ≤ (cap' : Int) := by omega
      have J6 : Hid (zs'.take n1 = (zfill zs2 start pad).take n1) := h6'
      have J5 : Hid (zs'.length = cap') := h5'
      clear h5' h6' ho
      go_wp2
      have hw1 : IntKind.i64.wrap ((p : Int) + 1) = (p : Int) + 1 := by rw [IntKind.wrap_i64]; omega
      have hw2 : IntKind.i64.wrap (n1 : Int) = (n1 : Int) := by rw [IntKind.wrap_i64]; omega
      have t1 : ((p : Int) + 1).toNat = p + 1 := by omega
      have t2 : (0 : Int) ≤ (p : Int) + 1 := by omega
      have t3 : p ≤ n1 := by omega
      have t4 : ¬ cap' = p + 1 := by omega
      have t5 : ¬ cap' = p := by omega
      have t6 : n1 ≤ cap' := by omega
      have t7 : n1 + 1 - (p + 1) = n1 - p := by omega
      have l1 : Hid (((zs'.drop p).take (n1 - p)).length = n1 - p) := by have := J5.out; show _ = _; simp; omega
      have s1 : Hid (((zs'.drop p).take (n1 - p)).length = Nat.min (n1 - p) (n1 - p)) := by rw [l1.out]; exact (Nat.min_self _).symm
      have s2 : Hid (∀ j, j < ((zs'.drop p).take (n1 - p)).length → w3.cell? ((⟨g', p, none⟩ : Addr).add j) = some (.int .u8 (((zs'.drop p).take (n1 - p))[j]?.getD 0))) := by
        intro j hj
        rw [l1.out] at hj
        rw [addr_add, h2'.cell (by have := J5.out; omega), List.getElem?_take, if_pos hj, List.getElem?_drop]
      have s3 : Hid (p + 1 + ((zs'.drop p).take (n1 - p)).length ≤ zs'.length) := by show _ ≤ _; rw [l1.out, J5.out]; omega
      go_region_law (refine step_copy_u8 rfl (.tmp 60) (.tmp 66) rfl (some ⟨g', p + 1, none⟩) (some ⟨g', p, none⟩) (n1 - p) (cap' - (p + 1)) (n1 - p) (cap' - p) (by simp [Act.eval, Act.put]) (by simp [Act.eval, Act.put]) g' (p + 1) zs' ((zs'.drop p).take (n1 - p)) (by exact h2') s1.out (fun _ => ⟨rfl, _, rfl, by exact s2.out⟩) s3.out ?_; intro w4 hr4 hg4)
      have hl4 : Hid ((splice zs' (p + 1) ((zs'.drop p).take (n1 - p))).length = cap') := by show _ = _; rw [length_splice _ _ _ s3.out]; exact J5.out
      have c1 := hr4.cell (i := p) (by rw [hl4.out]; omega)
      have c2 := hr4.free p
      have c3 : (p : Int) < (n1 : Int) + 1 := by omega
      go_wp2
      go_ret
      have hlen : (zs.take n).length = n := by simp; omega
      have k2 : w.grownBy wr (ao.map (·.block)) := grown_own k1.out hgk (own_row h1)
      have hsz := k2.size
      have o2 : ao = some ⟨g', 0, none⟩ ∨ w.heap.size ≤ g' := by
        rcases h1' with h | h
        · simp only [Option.some.injEq, Addr.mk.injEq, and_true] at h
          subst h
          exact h1
        · exact .inr (by omega)
      have hdL : (zfill zs2 start pad).take n1 = padL (zs.take n) start places := by
        rw [N1.out, Z2.out, pad_list zs1 (zs.take n) n start pad H6.out hs (by rw [H5.out]; have := N1.out; omega)]
        unfold padL
        rw [hlen, show places + 1 - (n - start) = pad by have := hpp.out; omega]
      have hpl : (padL (zs.take n) start places).length = n1 := by
        rw [padL_length _ _ _ (by rw [hlen]; exact hs), hlen]; have := hpp.out; have := N1.out; omega
      refine ⟨g', n1 + 1, cap', _, rfl, o2, hr4.set p 46, h3', h4'', by simpa using hl4.out, ?_, ?_⟩
      · rw [point_list zs' _ n1 p J6.out (by rw [J5.out]; exact h3') (by omega), hdL]
        unfold placeL pointL
        rw [if_neg (by omega), hpl, show n1 - places = p by have := hpp.out; have := N1.out; have := PE.out; omega]
      · exact grown_own (grown_own (grown_trans k2 (grown_below h7'.drew _)) hg4 (own_row o2)) (grown_setCell _ _ _ _) (own_row o2)

/-- 'PlacePoint' at places 1 or more. -/
theorem place_any (ao : Option Addr) (n cap start places : Nat) (zs : List Int) (w : World) (hown : Own w ao n cap zs) (hs : start ≤ n) (hp : 1 ≤ places) (hn : n ≤ 4194304) (hpb : places ≤ 4194304) :
    Calls Try.prog 12 #[.slice ao n cap, .int .i64 start, .int .i64 places] w (Placed w ao (zs.take n) start places) := by
  by_cases h : places + 1 ≤ n - start
  · exact place_nopad ao n cap start places (n - places) zs w hown hs hp hn hpb h (by show _ = _; omega)
  · exact place_pad ao n cap start places (places + 1 - (n - start)) zs w hown hs hp hn hpb (by omega) (by show _ = _; omega)
end Go.Proofs.Qxb6602096a
