/-
  THE WALK of 'b1copy' (10).
-/
import Derived.Test.Qxb6602096aPpPlace
import Derived.WalkSpells
namespace Go.Proofs.Qxb6602096a
open Go.RowKit

theorem made_u8 (n : Nat) : madeCells (Value.int .u8 0).cells (n * 1) = rowV (List.replicate n 0) := by
  apply Array.ext'
  rw [Nat.mul_one, show (Value.int .u8 0).cells = #[Value.int .u8 0] from rfl, toList_madeCells_one]
  simp [rowV]

/-- make([]byte, N). -/
theorem wpList_make_u8 {w : World} {ops : Array Oper} {rest : List Oper} {o : Oper} {a : Act} {Q : Exit → Act → World → Prop}
    (hg : o.guard = none) (l c : Operand) (hop : o.op = Op.makeSlice 26 l c) (kl kc : IntKind) (N : Nat) (hl : a.eval l = .int kl N) (hc : a.eval c = .int kc N) (hN : N ≤ 4294967296)
    (hK : ∀ g w', w.heap.size ≤ g → Row w' g (List.replicate N 0) → Below w.heap.size w w' → wpList Try.prog ops Q rest (a.put o.dst (.slice (some ⟨g, 0, none⟩) N N)) w') :
    wpList Try.prog ops Q (o :: rest) a w := by
  obtain ⟨i, hi, hz, hs, hb⟩ := info_parts info5
  refine wpList_plain hg fun K hK' => ?_
  have hrun := run_make (P := Try.prog) w 26 5 i (.int .u8 0) Try.underlying26 hi hz kl kc N N (by omega) (by omega) (by rw [hb]; omega) (by omega)
  rw [hs, Int.toNat_natCast, made_u8] at hrun
  unfold Oper.wp
  simp [execOp, hop, hl, hc, hrun, Result.andThen]
  exact hK' _ _ (hK w.heap.size _ (Nat.le_refl _) (heap_alloc_new w _) ((Below.refl _ _).alloc (Nat.le_refl _) _))

/-- A slice that came in, read up to its length. -/
def Src (w : World) (ao : Option Addr) (d : List Int) : Prop :=
  (ao = none → d = []) ∧ ∀ x, ao = some x → ∀ j, j < d.length → w.cell? (x.add j) = some (.int .u8 (d[j]?.getD 0))

/-- What 'b1copy' leaves. -/
def Copied (w : World) (n : Nat) (zs : List Int) (e : Ending) (w' : World) : Prop :=
  ∃ ao cap, e = .returned (.slice ao n cap) ∧ Own w' ao n cap zs ∧ (∀ g, ao = some ⟨g, 0, none⟩ → w.heap.size ≤ g) ∧ Below w.heap.size w w'

theorem src_pos {w w' : World} {ao : Option Addr} {d : List Int} (h : Src w ao d) (hb : Below w.heap.size w w') (hp : 0 < d.length) :
    ∃ ad, ao = some ad ∧ ∀ j, j < d.length → w'.cell? (ad.add j) = some (.int .u8 (d[j]?.getD 0)) := by
  cases ao with
  | none => rw [h.1 rfl] at hp; simp at hp
  | some x =>
    refine ⟨x, rfl, fun j hj => ?_⟩
    have hc := h.2 x rfl j hj
    rw [hb.cell (World.block_lt_of_cell? w _ hc)]
    exact hc
theorem own_below {w w1 w2 : World} {g : Nat} (h : Below w.heap.size w w1) (hg : w1.grownBy w2 (some g)) (hw : w.heap.size ≤ g) : Below w.heap.size w w2 :=
  h.trans (below_grown hg h.size (fun k hk => by simp at hk; omega))

theorem copy_fill (N len0 : Nat) (d r : List Int) (hd : d.length = len0) (hN : len0 + 1 + r.length = N) :
    splice ((splice (List.replicate N 0) 0 d).set len0 48) (len0 + 1) r = d ++ (48 :: r) := by
  subst hd
  have e1 : splice (List.replicate N 0) 0 d = d ++ List.replicate (N - d.length) 0 := by simp [splice]
  rw [e1, List.set_append_right _ _ (Nat.le_refl _)]
  obtain ⟨m, hm⟩ : ∃ m, N - d.length = m + 1 := ⟨N - d.length - 1, by omega⟩
  rw [hm, Nat.sub_self, List.replicate_succ, List.set_cons_zero]
  have e2 : m = r.length := by omega
  subst e2
  unfold splice
  have e3 : (d ++ 48 :: List.replicate r.length 0).take (d.length + 1) = d ++ [48] := by
    rw [show d ++ 48 :: List.replicate r.length 0 = (d ++ [48]) ++ List.replicate r.length 0 by simp, List.take_left' (by simp)]
  have e4 : (d ++ 48 :: List.replicate r.length 0).drop (d.length + 1 + r.length) = [] := by
    apply List.drop_eq_nil_of_le; simp; omega
  rw [e3, e4]
  simp
theorem copy_fill0 (N len0 : Nat) (d r : List Int) (hd : d.length = len0) (hN : len0 + r.length = N) :
    splice (splice (List.replicate N 0) 0 d) len0 r = d ++ r := by
  subst hd
  have e1 : splice (List.replicate N 0) 0 d = d ++ List.replicate (N - d.length) 0 := by simp [splice]
  rw [e1, show N - d.length = r.length by omega]
  unfold splice
  have e4 : (d ++ List.replicate r.length 0).drop (d.length + r.length) = [] := by
    apply List.drop_eq_nil_of_le; simp
  rw [List.take_left' rfl, e4]
  simp

set_option maxHeartbeats 1000000 in
theorem copy_zero (a0 a3 : Option Addr) (len0 cap0 len3 cap3 n N : Nat) (d r : List Int) (w : World) (hd : Src w a0 d) (hr : Src w a3 r) (D : Hid (d.length = len0)) (R : Hid (r.length = len3))
    (hn : (len0 : Int) + 1 = (n : Int)) (hN : (n : Int) + (len3 : Int) = (N : Int)) (hb : N ≤ 4194304) :
    Calls Try.prog 10 #[.slice a0 len0 cap0, .bool true, .slice a3 len3 cap3] w (Copied w n (d ++ (48 :: r))) := by
  have n0 : ((n : Int) == 0) = false := by simp; omega
  have n1 : (n : Int) ≤ (N : Int) := by omega
  have n2 : 0 < n := by omega
  have n3 : (n : Int) - 1 = (len0 : Int) := by omega
  have n4 : (len0 : Int) < (N : Int) := by omega
  have m1 : Hid (d.length = Nat.min len0 N) := by show _ = min _ _; have := D.out; omega
  have m2 : Hid (0 + d.length ≤ (List.replicate N (0 : Int)).length) := by show _ ≤ _; have := D.out; simp; omega
  have m3 : Hid (r.length = Nat.min len3 (N - n)) := by show _ = min _ _; have := R.out; omega
  have m4 : Hid (0 < r.length → ¬ N = n) := by intro h; have := R.out; omega
  have m5 : Hid (n + r.length ≤ ((splice (List.replicate N 0) 0 d).set len0 48).length) := by show _ ≤ _; rw [List.length_set, length_splice _ _ _ m2.out]; simp; have := R.out; omega
  go_enter Try.func10, Try.ntmps10
  go_wp2_with (first
    | (at_make; refine wpList_make_u8 rfl _ _ rfl .i64 .i64 N rfl rfl (by omega) ?_; intro g w1 hg1 hr1 hb1; obtain ⟨dp, hdp⟩ : ∃ dp, (if N = n then some (⟨g, 0, none⟩ : Addr) else some ⟨g, n, none⟩) = dp := ⟨_, rfl⟩; have DP : Hid ((if N = n then some (⟨g, 0, none⟩ : Addr) else some ⟨g, n, none⟩) = dp) := hdp)
    | (with_reducible (show wpList _ _ _ ({ dst := some 31, op := _, type := _, pos := _, after := _, guard := _ } :: _) _ _); go_must (refine wpList_copy_u8 rfl (.tmp 29) (.tmp 30) rfl _ a0 N N len0 cap0 rfl rfl g 0 _ d hr1 m1.out (fun h => ⟨rfl, src_pos hd hb1 h⟩) m2.out ?_); intro w2 hr2 hg2; have c1 := hr2.cell (i := len0) (by rw [length_splice _ _ _ m2.out]; simp; omega); have c2 := hr2.free len0; have R3 := hr2.set len0 48; have B3 : Below w.heap.size w (w2.setCell ⟨g, len0, none⟩ (.int .u8 48)) := own_below (own_below hb1 hg2 hg1) (grown_setCell _ _ _ _) hg1)
    | (with_reducible (show wpList _ _ _ ({ dst := some 41, op := _, type := _, pos := _, after := _, guard := _ } :: _) _ _); go_must (refine wpList_copy_u8 rfl (.tmp 39) (.tmp 40) rfl dp a3 (N - n) (N - n) len3 cap3 rfl rfl g n _ r R3 m3.out (fun h => ⟨DP.out.symm.trans (if_neg (m4.out h)), src_pos hr B3 h⟩) m5.out ?_); intro w4 hr4 hg4))
  go_ret
  refine ⟨some ⟨g, 0, none⟩, N, rfl, .inr ⟨g, rfl, ?_, by omega, by unfold maxLen; omega, ?_⟩, fun k hk => ?_, own_below B3 hg4 hg1⟩
  · rw [show n = len0 + 1 by omega, copy_fill N len0 d r D.out (by have := R.out; omega)] at hr4
    exact hr4
  · simp; have := R.out; have := D.out; omega
  · simp at hk; omega

set_option maxHeartbeats 1000000 in
theorem copy_plain (a0 a3 : Option Addr) (len0 cap0 len3 cap3 N : Nat) (d r : List Int) (w : World) (hd : Src w a0 d) (hr : Src w a3 r) (D : Hid (d.length = len0)) (R : Hid (r.length = len3))
    (hN : (len0 : Int) + (len3 : Int) = (N : Int)) (hb : N ≤ 4194304) (hpos : ((len0 : Int) == 0) = false ∨ ((len0 : Int) == 0) = true ∧ ((len3 : Int) == 0) = false) :
    Calls Try.prog 10 #[.slice a0 len0 cap0, .bool false, .slice a3 len3 cap3] w (Copied w len0 (d ++ r)) := by
  have n1 : (len0 : Int) ≤ (N : Int) := by omega
  have m1 : Hid (d.length = Nat.min len0 N) := by show _ = min _ _; have := D.out; omega
  have m2 : Hid (0 + d.length ≤ (List.replicate N (0 : Int)).length) := by show _ ≤ _; have := D.out; simp; omega
  have m3 : Hid (r.length = Nat.min len3 (N - len0)) := by show _ = min _ _; have := R.out; omega
  have m4 : Hid (0 < r.length → ¬ N = len0) := by intro h; have := R.out; omega
  have m5 : Hid (len0 + r.length ≤ (splice (List.replicate N 0) 0 d).length) := by show _ ≤ _; rw [length_splice _ _ _ m2.out]; simp; have := R.out; omega
  rcases hpos with hz | ⟨hz, hz3⟩
  all_goals
    go_enter Try.func10, Try.ntmps10
    go_wp2_with (first
      | (at_make; refine wpList_make_u8 rfl _ _ rfl .i64 .i64 N rfl rfl (by omega) ?_; intro g w1 hg1 hr1 hb1; obtain ⟨dp, hdp⟩ : ∃ dp, (if N = len0 then some (⟨g, 0, none⟩ : Addr) else some ⟨g, len0, none⟩) = dp := ⟨_, rfl⟩; have DP : Hid ((if N = len0 then some (⟨g, 0, none⟩ : Addr) else some ⟨g, len0, none⟩) = dp) := hdp)
      | (with_reducible (show wpList _ _ _ ({ dst := some 31, op := _, type := _, pos := _, after := _, guard := _ } :: _) _ _); go_must (refine wpList_copy_u8 rfl (.tmp 29) (.tmp 30) rfl _ a0 N N len0 cap0 rfl rfl g 0 _ d hr1 m1.out (fun h => ⟨rfl, src_pos hd hb1 h⟩) m2.out ?_); intro w2 hr2 hg2; have B3 : Below w.heap.size w w2 := own_below hb1 hg2 hg1)
      | (with_reducible (show wpList _ _ _ ({ dst := some 41, op := _, type := _, pos := _, after := _, guard := _ } :: _) _ _); go_must (refine wpList_copy_u8 rfl (.tmp 39) (.tmp 40) rfl dp a3 (N - len0) (N - len0) len3 cap3 rfl rfl g len0 _ r hr2 m3.out (fun h => ⟨DP.out.symm.trans (if_neg (m4.out h)), src_pos hr B3 h⟩) m5.out ?_); intro w4 hr4 hg4))
    go_ret
    refine ⟨some ⟨g, 0, none⟩, N, rfl, .inr ⟨g, rfl, ?_, by omega, by unfold maxLen; omega, ?_⟩, fun k hk => ?_, own_below B3 hg4 hg1⟩
    · rw [copy_fill0 N len0 d r D.out (by have := R.out; omega)] at hr4
      exact hr4
    · simp; have := R.out; have := D.out; omega
    · simp at hk; omega

set_option maxHeartbeats 400000 in
theorem copy_nothing (a0 a3 : Option Addr) (cap0 cap3 : Nat) (w : World) :
    Calls Try.prog 10 #[.slice a0 0 cap0, .bool false, .slice a3 0 cap3] w (Copied w 0 []) := by
  have hnil := fun (wx : World) => Lib.run_eql_slice_nil (P := Try.prog) wx 26 5 a0 0 cap0 0 0 Try.underlying26
  cases a0 with
  | none =>
    go_enter Try.func10, Try.ntmps10
    go_wp2
    go_ret
    exact ⟨none, 0, rfl, .inl ⟨rfl, rfl, rfl, rfl⟩, fun g hg => (by cases hg), Below.refl _ _⟩
  | some x =>
    go_enter Try.func10, Try.ntmps10
    go_wp2_with (at_make; refine wpList_make_u8 rfl _ _ rfl .i64 .i64 0 rfl rfl (by omega) ?_; intro g w1 hg1 hr1 hb1)
    go_ret
    refine ⟨some ⟨g, 0, none⟩, 0, rfl, .inr ⟨g, rfl, hr1, Nat.le_refl _, by unfold maxLen; omega, rfl⟩, fun k hk => ?_, hb1⟩
    simp at hk
    omega

/-- 'b1copy(src, addZero, room)'. -/
theorem copy_any (a0 a3 : Option Addr) (len0 cap0 len3 cap3 : Nat) (z : Bool) (d r : List Int) (w : World) (hd : Src w a0 d) (hr : Src w a3 r) (D : d.length = len0) (R : r.length = len3) (hb : len0 + len3 ≤ 4194303) :
    Calls Try.prog 10 #[.slice a0 len0 cap0, .bool z, .slice a3 len3 cap3] w (Copied w (len0 + if z then 1 else 0) (d ++ ((if z then [48] else []) ++ r))) := by
  cases z with
  | true => exact copy_zero a0 a3 len0 cap0 len3 cap3 (len0 + 1) (len0 + 1 + len3) d r w hd hr D R (by omega) (by omega) (by omega)
  | false =>
    by_cases h : len0 = 0 ∧ len3 = 0
    · obtain ⟨rfl, rfl⟩ := h
      obtain rfl : d = [] := List.eq_nil_of_length_eq_zero D
      obtain rfl : r = [] := List.eq_nil_of_length_eq_zero R
      exact copy_nothing a0 a3 cap0 cap3 w
    · refine copy_plain a0 a3 len0 cap0 len3 cap3 (len0 + len3) d r w hd hr D R (by omega) (by omega) ?_
      by_cases h0 : len0 = 0
      · right
        subst h0
        exact ⟨rfl, by simp; omega⟩
      · left
        simp; omega
end Go.Proofs.Qxb6602096a
