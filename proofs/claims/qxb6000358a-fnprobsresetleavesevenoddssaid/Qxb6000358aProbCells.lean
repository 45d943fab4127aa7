/-
  THE WALKS of zzLengthCells (20) and ZZprobsCells (15): the list of eighty slices over one probs.
-/
import Derived.Test.Qxb6000358aProbKit
import Derived.WalkSpells
import Derived.BigRegion
namespace Go.Proofs.Qxb6000358a.Prob
open Go.RowKit

theorem info52 : (Try.prog.info? 52).map (fun i => (i.zero, i.size, i.bytes)) = some (some (.slice none 0 0), 1, 24) := by kernel_rfl

/-- The lengths of the eighty arrays of a probs, in the order of the listing. -/
def lensL : List Nat := [192, 12, 12, 12, 12, 192, 64, 64, 64, 64, 115, 16] ++ ([2] ++ List.replicate 32 8 ++ [256]) ++ ([2] ++ List.replicate 32 8 ++ [256])
def ln (i : Nat) : Nat := lensL.getD i 0
def ofs (i : Nat) : Nat := (lensL.take i).sum
/-- The i-th slice. -/
def cl (P i : Nat) : Value := .slice (some ⟨P, ofs i, none⟩) (ln i) (ln i)
def clL (P m : Nat) : List Value := (List.range m).map (cl P)
theorem clL_succ (P m : Nat) : clL P (m + 1) = clL P m ++ [cl P m] := by simp [clL, List.range_succ]
theorem cl_one (P m : Nat) : ∀ u ∈ [cl P m], u.oneCell' = true := by intro u hu; simp at hu; subst hu; rfl

/-- cells = append(cells, <the m-th slice>). -/
theorem wpList_append_cl {w : World} {ops : Array Oper} {rest : List Oper} {o : Oper} {a : Act} {Q : Exit → Act → World → Prop} (hgd : o.guard = none) (s x : Operand)
    (ho : o.op = .call { callee := .builtin .append, args := #[s, x], argTypes := #[49, 49] }) (base m P : Nat) (v : Value) (hs : a.eval s = v) (hown : w.ownsRow base 52 1 v m (clL P m))
    (g : Nat) (hx : a.eval x = .slice (some ⟨g, 0, none⟩) 1 1) (hc : w.cell? ⟨g, 0, none⟩ = some (cl P m)) (hm : m ≤ 1000) (hbase : base ≤ w.heap.size)
    (h : ∀ v' w', w'.ownsRow base 52 1 v' (m + 1) (clL P (m + 1)) → Below base w w' → wpList Try.prog ops Q rest (a.put o.dst v') w') : wpList Try.prog ops Q (o :: rest) a w := by
  obtain ⟨i0, hi, hz0, hz1, hz2⟩ := info_parts info52
  refine wpList_append_own w hgd s x 49 ho base 52 i0 (.slice none 0 0) 1 24 Try.underlying49 hi hz0 hz1 hz2 rfl (by decide) v m (clL P m) hs hown ⟨g, 0, none⟩ 1 1 [cl P m] hx rfl ?_ (cl_one P m) (by unfold maxLen; omega) (by omega) hbase ?_
  · intro j u hj
    cases j with
    | zero =>
      simp at hj
      subst hj
      exact hc
    | succ j => simp at hj
  · intro v' w' h1 h2 _
    rw [← clL_succ] at h1
    exact h v' w' h1 ((Below.refl _ _).grown h2 hbase (fun k hk => (hown.lt k hk).1))

/-! ### Where the slices lie -/
def At (m o : Nat) : Prop := m = 12 ∧ o = 819 ∨ m = 46 ∧ o = 1333
theorem cl_of (P i o n : Nat) (h : ofs i = o ∧ ln i = n) : cl P i = .slice (some ⟨P, o, none⟩) n n := by
  unfold cl
  rw [h.1, h.2]
theorem at_choice (P m o : Nat) (h : At m o) : cl P m = .slice (some ⟨P, o, none⟩) 2 2 := by
  rcases h with ⟨rfl, rfl⟩ | ⟨rfl, rfl⟩ <;> exact cl_of _ _ _ _ (by decide +kernel)
theorem at_low (P m o k : Nat) (h : At m o) (hk : k < 16) : cl P (m + 1 + k) = .slice (some ⟨P, o + 2 + k * 8, none⟩) 8 8 := by
  rcases h with ⟨rfl, rfl⟩ | ⟨rfl, rfl⟩
  · have : ∀ k : Fin 16, ofs (12 + 1 + k.val) = 819 + 2 + k.val * 8 ∧ ln (12 + 1 + k.val) = 8 := by decide +kernel
    exact cl_of _ _ _ _ (this ⟨k, hk⟩)
  · have : ∀ k : Fin 16, ofs (46 + 1 + k.val) = 1333 + 2 + k.val * 8 ∧ ln (46 + 1 + k.val) = 8 := by decide +kernel
    exact cl_of _ _ _ _ (this ⟨k, hk⟩)
theorem at_mid (P m o k : Nat) (h : At m o) (hk : k < 16) : cl P (m + 17 + k) = .slice (some ⟨P, o + 130 + k * 8, none⟩) 8 8 := by
  rcases h with ⟨rfl, rfl⟩ | ⟨rfl, rfl⟩
  · have : ∀ k : Fin 16, ofs (12 + 17 + k.val) = 819 + 130 + k.val * 8 ∧ ln (12 + 17 + k.val) = 8 := by decide +kernel
    exact cl_of _ _ _ _ (this ⟨k, hk⟩)
  · have : ∀ k : Fin 16, ofs (46 + 17 + k.val) = 1333 + 130 + k.val * 8 ∧ ln (46 + 17 + k.val) = 8 := by decide +kernel
    exact cl_of _ _ _ _ (this ⟨k, hk⟩)
theorem at_high (P m o : Nat) (h : At m o) : cl P (m + 33) = .slice (some ⟨P, o + 258, none⟩) 256 256 := by
  rcases h with ⟨rfl, rfl⟩ | ⟨rfl, rfl⟩ <;> exact cl_of _ _ _ _ (by decide +kernel)

/-- What 'append' is handed: a new block of one cell, the slice. -/
theorem new_cell (w : World) (P m : Nat) (x : Value) (h : cl P m = x) : (w.alloc (.cells #[x] 52)).cell? ⟨w.heap.size, 0, none⟩ = some (cl P m) := by
  rw [cell_of_row _ _ 0 _ _ _ (heap_alloc_new w _), h]
  rfl
theorem size_new (w : World) (x : Value) (base : Nat) (h : base ≤ w.heap.size) : base ≤ (w.alloc (.cells #[x] 52)).heap.size := by simp; omega
theorem below_new {w w1 : World} {base : Nat} (x : Value) (h : Below base w w1) (hb : base ≤ w.heap.size) : Below base w (w1.alloc (.cells #[x] 52)) := h.alloc (Nat.le_trans hb h.size) _

/-- The list grown to n slices. -/
def Listed (w : World) (base P n : Nat) (e : Ending) (w' : World) : Prop := ∃ v, e = .returned v ∧ w'.ownsRow base 52 1 v n (clL P n) ∧ Below base w w'

set_option maxHeartbeats 1000000 in
theorem lens_any (P o m base : Nat) (v : Value) (w : World) (hown : w.ownsRow base 52 1 v m (clL P m)) (hm : At m o) (hb : base ≤ w.heap.size) :
    Calls Try.prog 20 #[v, .pointer (some ⟨P, o, none⟩)] w (Listed w base P (m + 34)) := by
  have hm' : m ≤ 46 := by rcases hm with ⟨_, _⟩ | ⟨_, _⟩ <;> omega
  have o0 := hown.alloc (.cells #[.slice (some ⟨P, o, none⟩) 2 2] 52)
  have k1 : Hid ((w.alloc (.cells #[.slice (some ⟨P, o, none⟩) 2 2] 52)).cell? ⟨w.heap.size, 0, none⟩ = some (cl P m)) := new_cell w P m _ (at_choice P m o hm)
  have s1 := size_new w (.slice (some ⟨P, o, none⟩) 2 2) base hb
  have b1 := below_new (.slice (some ⟨P, o, none⟩) 2 2) (Below.refl base w) hb
  have s1' : m ≤ 1000 := by omega
  go_enter Try.func20, Try.ntmps20
  go_wp2_with (at_builtin; refine wpList_append_cl rfl (.tmp 7) (.tmp 12) rfl base m P v rfl o0 w.heap.size rfl k1.out s1' s1 ?_; intro v1 w1 hown1 hb1)
  have B1 := b1.trans hb1
  clear o0 k1 s1 b1 hown hb1
  go_loopw [0, 5] (fun v0 v5 wr => ∃ k : Nat, k ≤ 16 ∧ v5 = .int .i64 k ∧ wr.ownsRow base 52 1 v0 (m + 1 + k) (clL P (m + 1 + k)) ∧ Below base w wr) (fun _ v5 _ => 16 - (intOf v5).toNat)
  case atStart => exact ⟨0, by omega, rfl, hown1, B1⟩
  case round =>
    obtain ⟨k, hk, rfl, hown, hbel⟩ := hrel
    by_cases hlt : k < 16
    · have hi : (k : Int) < 16 := by omega
      have hb' := Nat.le_trans hb hbel.size
      have o0 := hown.alloc (.cells #[.slice (some ⟨P, o + 2 + k * 8, none⟩) 8 8] 52)
      have k1 : Hid ((wr.alloc (.cells #[.slice (some ⟨P, o + 2 + k * 8, none⟩) 8 8] 52)).cell? ⟨wr.heap.size, 0, none⟩ = some (cl P (m + 1 + k))) := new_cell wr P _ _ (at_low P m o k hm hlt)
      have s1 := size_new wr (.slice (some ⟨P, o + 2 + k * 8, none⟩) 8 8) base hb'
      have b1 := below_new (.slice (some ⟨P, o + 2 + k * 8, none⟩) 8 8) (Below.refl base wr) hb'
      have s2 : m + 1 + k ≤ 1000 := by omega
      go_wp2_with (at_builtin; go_must (refine wpList_append_cl rfl (.tmp 18) (.tmp 25) rfl base (m + 1 + k) P _ rfl o0 wr.heap.size rfl k1.out s2 s1 ?_); intro v2 w2 hown2 hb2)
      have B2 := hbel.trans (b1.trans hb2)
      go_roundw
      case rel => exact ⟨k + 1, by omega, by go_num, hown2, B2⟩
      case measure => simp [intOf]; omega
    · have e : k = 16 := by omega
      have hi : ¬ ((k : Int) < 16) := by omega
      rw [e, show m + 1 + 16 = m + 17 + 0 by omega] at hown
      clear e
      go_wp2
      go_loopw [0, 6] (fun v0 v6 wr => ∃ k : Nat, k ≤ 16 ∧ v6 = .int .i64 k ∧ wr.ownsRow base 52 1 v0 (m + 17 + k) (clL P (m + 17 + k)) ∧ Below base w wr) (fun _ v6 _ => 16 - (intOf v6).toNat)
      case atStart => exact ⟨0, by omega, rfl, hown, hbel⟩
      case round =>
        clear hown hbel hi
        obtain ⟨k, hk, rfl, hown, hbel⟩ := hrel
        have hb' := Nat.le_trans hb hbel.size
        by_cases hlt : k < 16
        · have hi : (k : Int) < 16 := by omega
          have o0 := hown.alloc (.cells #[.slice (some ⟨P, o + 130 + k * 8, none⟩) 8 8] 52)
          have k1 : Hid ((wr.alloc (.cells #[.slice (some ⟨P, o + 130 + k * 8, none⟩) 8 8] 52)).cell? ⟨wr.heap.size, 0, none⟩ = some (cl P (m + 17 + k))) := new_cell wr P _ _ (at_mid P m o k hm hlt)
          have s1 := size_new wr (.slice (some ⟨P, o + 130 + k * 8, none⟩) 8 8) base hb'
          have b1 := below_new (.slice (some ⟨P, o + 130 + k * 8, none⟩) 8 8) (Below.refl base wr) hb'
          have s2 : m + 17 + k ≤ 1000 := by omega
          go_wp2_with (at_builtin; go_must (refine wpList_append_cl rfl (.tmp 31) (.tmp 38) rfl base (m + 17 + k) P _ rfl o0 wr.heap.size rfl k1.out s2 s1 ?_); intro v2 w2 hown2 hb2)
          have B2 := hbel.trans (b1.trans hb2)
          go_roundw
          case rel => exact ⟨k + 1, by omega, by go_num, hown2, B2⟩
          case measure => simp [intOf]; omega
        · have e : k = 16 := by omega
          have hi : ¬ ((k : Int) < 16) := by omega
          rw [e, show m + 17 + 16 = m + 33 by omega] at hown
          clear e
          have o0 := hown.alloc (.cells #[.slice (some ⟨P, o + 258, none⟩) 256 256] 52)
          have k1 : Hid ((wr.alloc (.cells #[.slice (some ⟨P, o + 258, none⟩) 256 256] 52)).cell? ⟨wr.heap.size, 0, none⟩ = some (cl P (m + 33))) := new_cell wr P _ _ (at_high P m o hm)
          have s1 := size_new wr (.slice (some ⟨P, o + 258, none⟩) 256 256) base hb'
          have b1 := below_new (.slice (some ⟨P, o + 258, none⟩) 256 256) (Below.refl base wr) hb'
          have s2 : m + 33 ≤ 1000 := by omega
          go_wp2_with (at_builtin; go_must (refine wpList_append_cl rfl (.tmp 40) (.tmp 45) rfl base (m + 33) P _ rfl o0 wr.heap.size rfl k1.out s2 s1 ?_); intro v2 w2 hown2 hb2)
          go_ret
          exact ⟨v2, rfl, hown2, hbel.trans (b1.trans hb2)⟩

/-! ### ZZprobsCells -/
theorem at_slot (P k : Nat) (hk : k < 4) : cl P (6 + k) = .slice (some ⟨P, 432 + k * 64, none⟩) 64 64 := by
  have : ∀ k : Fin 4, ofs (6 + k.val) = 432 + k.val * 64 ∧ ln (6 + k.val) = 64 := by decide +kernel
  exact cl_of _ _ _ _ (this ⟨k, hk⟩)
theorem at_near (P : Nat) : cl P 10 = .slice (some ⟨P, 688, none⟩) 115 115 := cl_of _ _ _ _ (by decide +kernel)
theorem at_align (P : Nat) : cl P 11 = .slice (some ⟨P, 803, none⟩) 16 16 := cl_of _ _ _ _ (by decide +kernel)
theorem first_six (P : Nat) : clL P 6 = [.slice (some ⟨P, 0, none⟩) 192 192, .slice (some ⟨P, 192, none⟩) 12 12, .slice (some ⟨P, 204, none⟩) 12 12, .slice (some ⟨P, 216, none⟩) 12 12, .slice (some ⟨P, 228, none⟩) 12 12, .slice (some ⟨P, 240, none⟩) 192 192] := by
  show [cl P 0, cl P 1, cl P 2, cl P 3, cl P 4, cl P 5] = _
  rw [cl_of P 0 0 192 (by decide +kernel), cl_of P 1 192 12 (by decide +kernel), cl_of P 2 204 12 (by decide +kernel), cl_of P 3 216 12 (by decide +kernel), cl_of P 4 228 12 (by decide +kernel), cl_of P 5 240 192 (by decide +kernel)]

set_option maxHeartbeats 1000000 in
theorem cells_any (P : Nat) (w : World) : Calls Try.prog 15 #[.pointer (some ⟨P, 0, none⟩)] w (Listed w w.heap.size P 80) := by
  obtain ⟨base, hbase⟩ : ∃ b, b = w.heap.size := ⟨_, rfl⟩
  have own6 : (w.drew.alloc (.cells #[.slice (some ⟨P, 0, none⟩) 192 192, .slice (some ⟨P, 192, none⟩) 12 12, .slice (some ⟨P, 204, none⟩) 12 12, .slice (some ⟨P, 216, none⟩) 12 12, .slice (some ⟨P, 228, none⟩) 12 12, .slice (some ⟨P, 240, none⟩) 192 192] 52)).ownsRow base 52 1 (.slice (some ⟨w.heap.size, 0, none⟩) 6 6) 6 (clL P 6) := by
    rw [first_six]
    exact World.ownsRow_lit w.drew _ 6 (by rw [hbase]; exact Nat.le_refl _) (by unfold maxLen; omega) rfl
  have B6 : Below base w (w.drew.alloc (.cells #[.slice (some ⟨P, 0, none⟩) 192 192, .slice (some ⟨P, 192, none⟩) 12 12, .slice (some ⟨P, 204, none⟩) 12 12, .slice (some ⟨P, 216, none⟩) 12 12, .slice (some ⟨P, 228, none⟩) 12 12, .slice (some ⟨P, 240, none⟩) 192 192] 52)) := (Below.refl base w).drew.alloc (by rw [hbase]; exact Nat.le_refl _) _
  have hb : base ≤ w.heap.size := by omega
  rw [← hbase]
  clear hbase
  go_enter Try.func15, Try.ntmps15
  go_wp2
  go_region
  go_wp2
  go_loopw [3, 4] (fun v3 v4 wr => ∃ k : Nat, k ≤ 4 ∧ v4 = .int .i64 k ∧ wr.ownsRow base 52 1 v3 (6 + k) (clL P (6 + k)) ∧ Below base w wr) (fun _ v4 _ => 4 - (intOf v4).toNat)
  case atStart => exact ⟨0, by omega, rfl, own6, B6⟩
  case round =>
    clear own6 B6
    obtain ⟨k, hk, rfl, hown, hbel⟩ := hrel
    have hb' := Nat.le_trans hb hbel.size
    by_cases hlt : k < 4
    · have hi : (k : Int) < 4 := by omega
      have o0 := hown.alloc (.cells #[.slice (some ⟨P, 432 + k * 64, none⟩) 64 64] 52)
      have k1 : Hid ((wr.alloc (.cells #[.slice (some ⟨P, 432 + k * 64, none⟩) 64 64] 52)).cell? ⟨wr.heap.size, 0, none⟩ = some (cl P (6 + k))) := new_cell wr P _ _ (at_slot P k hlt)
      have s1 := size_new wr (.slice (some ⟨P, 432 + k * 64, none⟩) 64 64) base hb'
      have b1 := below_new (.slice (some ⟨P, 432 + k * 64, none⟩) 64 64) (Below.refl base wr) hb'
      have s2 : 6 + k ≤ 1000 := by omega
      go_wp2_with (at_builtin; go_must (refine wpList_append_cl rfl (.tmp 34) (.tmp 41) rfl base (6 + k) P _ rfl o0 wr.heap.size rfl k1.out s2 s1 ?_); intro v2 w2 hown2 hb2)
      have B2 := hbel.trans (b1.trans hb2)
      go_roundw
      case rel => exact ⟨k + 1, by omega, by go_num, hown2, B2⟩
      case measure => simp [intOf]; omega
    · have e : k = 4 := by omega
      have hi : ¬ ((k : Int) < 4) := by omega
      rw [e] at hown
      clear e
      have o0 := hown.alloc (.cells #[.slice (some ⟨P, 688, none⟩) 115 115] 52)
      have k1 : Hid ((wr.alloc (.cells #[.slice (some ⟨P, 688, none⟩) 115 115] 52)).cell? ⟨wr.heap.size, 0, none⟩ = some (cl P 10)) := new_cell wr P _ _ (at_near P)
      have s1 := size_new wr (.slice (some ⟨P, 688, none⟩) 115 115) base hb'
      have b1 := below_new (.slice (some ⟨P, 688, none⟩) 115 115) (Below.refl base wr) hb'
      go_wp2_with (first
        | (at_builtin; refine wpList_append_cl rfl (.tmp 43) (.tmp 48) rfl base 10 P _ rfl o0 wr.heap.size rfl k1.out (by decide) s1 ?_; intro v2 w2 hown2 hb2; have hs2 := Nat.le_trans s1 hb2.size; have p0 := hown2.alloc (.cells #[.slice (some ⟨P, 803, none⟩) 16 16] 52); have q1 : Hid ((w2.alloc (.cells #[.slice (some ⟨P, 803, none⟩) 16 16] 52)).cell? ⟨w2.heap.size, 0, none⟩ = some (cl P 11)) := new_cell w2 P _ _ (at_align P); have s3 := size_new w2 (.slice (some ⟨P, 803, none⟩) 16 16) base hs2; have b3 := below_new (.slice (some ⟨P, 803, none⟩) 16 16) (Below.refl base w2) hs2)
        | (at_builtin; go_must (refine wpList_append_cl rfl (.tmp 50) (.tmp 55) rfl base 11 P _ rfl p0 w2.heap.size rfl q1.out (by decide) s3 ?_); intro v4 w4 hown4 hb4; have B4 := hbel.trans ((b1.trans hb2).trans (b3.trans hb4)); have hs4 := Nat.le_trans hb B4.size))
      refine (lens_any P 819 12 base v4 w4 hown4 (.inl ⟨rfl, rfl⟩) hs4).mono ?_
      rintro e w5 ⟨v5, rfl, hown5, hb5⟩
      have B5 := B4.trans hb5
      have hs5 := Nat.le_trans hb B5.size
      go_wp2_with fail
      refine (lens_any P 1333 46 base v5 w5 hown5 (.inr ⟨rfl, rfl⟩) hs5).mono ?_
      rintro e w6 ⟨v6, rfl, hown6, hb6⟩
      go_wp2
      go_ret
      exact ⟨v6, rfl, hown6, B5.trans hb6⟩
end Go.Proofs.Qxb6000358a.Prob
