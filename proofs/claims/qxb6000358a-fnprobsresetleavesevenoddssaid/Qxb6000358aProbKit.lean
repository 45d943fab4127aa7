/-
  THE MEMORY OF A probs STRUCT: one block of 1847 odds (type 48), known whole; and the walks of the three resets (22, 23, 21, 16).
-/
import Derived.Test.Qxb6000358aProg
import Derived.WalkKit
import Derived.ProofKit
namespace Go.Proofs.Qxb6000358a.Prob
open Go.RowKit

/-! ### Plain lists -/
/-- k even odds written from 'start' on -/
def fill (zs : List Int) (start k : Nat) : List Int := zs.take start ++ (List.replicate k 1024 ++ zs.drop (start + k))
theorem fill_zero (zs : List Int) (start : Nat) : fill zs start 0 = zs := by simp [fill]
theorem fill_length (zs : List Int) (start k : Nat) (h : start + k ≤ zs.length) : (fill zs start k).length = zs.length := by simp [fill]; omega
theorem get_fill (zs : List Int) (start k i : Nat) (h : start + k ≤ zs.length) : (fill zs start k)[i]? = if start ≤ i ∧ i < start + k then some 1024 else zs[i]? := by
  unfold fill
  rw [List.getElem?_append]
  simp only [List.length_take, Nat.min_eq_left (by omega : start ≤ zs.length)]
  by_cases h1 : i < start
  · rw [if_pos h1, if_neg (by omega), List.getElem?_take, if_pos h1]
  · rw [if_neg h1, List.getElem?_append, List.length_replicate]
    by_cases h2 : i - start < k
    · rw [if_pos h2, if_pos (by omega), List.getElem?_replicate, if_pos h2]
    · rw [if_neg h2, if_neg (by omega), List.getElem?_drop]
      congr 1
      omega
theorem fill_succ (zs : List Int) (start k : Nat) (h : start + k < zs.length) : (fill zs start k).set (start + k) 1024 = fill zs start (k + 1) := by
  apply List.ext_getElem?
  intro i
  rw [List.getElem?_set, fill_length _ _ _ (by omega), get_fill _ _ _ _ (by omega), get_fill _ _ _ _ (by omega)]
  by_cases h1 : start + k = i
  · subst h1; rw [if_pos rfl, if_pos h, if_pos (by omega)]
  · rw [if_neg h1]
    by_cases h2 : start ≤ i ∧ i < start + k
    · rw [if_pos h2, if_pos (by omega)]
    · rw [if_neg h2, if_neg (by omega)]

/-! ### Worlds -/
def rowP (zs : List Int) : Array Value := (zs.map (Value.int .u16)).toArray
/-- Block P is a probs struct, whole. -/
def RowP (w : World) (P : Nat) (zs : List Int) : Prop := w.heap[P]? = some (.cells (rowP zs) 48 (0, 0))
theorem RowP.lt {w : World} {g : Nat} {zs : List Int} (h : RowP w g zs) : g < w.heap.size := (Array.getElem?_eq_some_iff.1 h).1
theorem RowP.cell {w : World} {g : Nat} {zs : List Int} (h : RowP w g zs) {i : Nat} (hi : i < zs.length) : w.cell? ⟨g, i, none⟩ = some (.int .u16 (zs[i]?.getD 0)) := by
  rw [cell_of_row w g i _ _ _ h]
  simp [rowP, hi]
theorem RowP.free {w : World} {g : Nat} {zs : List Int} (h : RowP w g zs) (i : Nat) : w.frozen? ⟨g, i, none⟩ = false := frozen_of_row w g i _ _ h
theorem RowP.set {w : World} {g : Nat} {zs : List Int} (h : RowP w g zs) (i : Nat) (x : Int) : RowP (w.setCell ⟨g, i, none⟩ (.int .u16 x)) g (zs.set i x) := by
  unfold RowP
  rw [heap_setCell_same w g i _ _ _ h]
  simp [rowP, List.map_set]
theorem RowP.kept {w w' : World} {g : Nat} {zs : List Int} {row : Option Nat} (h : RowP w g zs) (hg : w.grownBy w' row) (hne : some g ≠ row) : RowP w' g zs := by
  unfold RowP
  rw [hg.block g h.lt hne]
  exact h
theorem grown_refl (w : World) (row : Option Nat) : w.grownBy w row := ⟨rfl, rfl, rfl, Nat.le_refl _, fun _ _ _ => rfl⟩
theorem grown_trans {a b c : World} {row : Option Nat} (h : a.grownBy b row) (k : b.grownBy c row) : a.grownBy c row :=
  ⟨k.os.trans h.os, k.tape.trans h.tape, k.output.trans h.output, Nat.le_trans h.size k.size, fun i hi hr => (k.block i (Nat.lt_of_lt_of_le hi h.size) hr).trans (h.block i hi hr)⟩
theorem grown_setCell (w : World) (g i : Nat) (x : Value) : w.grownBy (w.setCell ⟨g, i, none⟩ x) (some g) :=
  ⟨rfl, rfl, rfl, by simp, fun k _ hk => heap_setCell_other w _ k _ (fun e => hk (by simp [e]))⟩

/-! ### resetProbs -/
/-- What resetProbs leaves: the stretch is even, the rest stands. -/
def Evened (w : World) (P o n : Nat) (zs : List Int) (e : Ending) (w' : World) : Prop := e = .returned (.tuple #[]) ∧ RowP w' P (fill zs o n) ∧ w.grownBy w' (some P)

set_option maxHeartbeats 400000 in
theorem reset_any (P o n : Nat) (zs : List Int) (w : World) (hrow : RowP w P zs) (hl : o + n ≤ zs.length) (hb : n ≤ 65536) : Calls Try.prog 22 #[.slice (some ⟨P, o, none⟩) n n] w (Evened w P o n zs) := by
  go_enter Try.func22, Try.ntmps22
  go_wp2
  go_loopw [5] (fun i wr => ∃ k : Nat, k ≤ n ∧ i = .int .i64 k ∧ RowP wr P (fill zs o k) ∧ w.grownBy wr (some P)) (fun i _ => n - (intOf i).toNat)
  case atStart => exact ⟨0, Nat.zero_le _, rfl, by rw [fill_zero]; exact hrow, grown_refl _ _⟩
  case round =>
    obtain ⟨k, hk, rfl, hrk, hgk⟩ := hrel
    by_cases hlt : k < n
    · have hi : (k : Int) < (n : Int) := by omega
      have c1 := hrk.cell (i := o + k) (by rw [fill_length _ _ _ (by omega)]; omega)
      have c2 := hrk.free (o + k)
      have R := hrk.set (o + k) 1024
      rw [fill_succ _ _ _ (by omega)] at R
      go_wp2
      go_roundw
      case rel => exact ⟨k + 1, by omega, by go_num, R, grown_trans hgk (grown_setCell _ _ _ _)⟩
      case measure => simp [intOf]; omega
    · have e : k = n := by omega
      rw [e] at hrk
      clear e
      go_wp2
      go_end0
      exact ⟨rfl, hrk, hgk⟩

/-! ### lengthProbs.reset -/
structure St (zs Z : List Int) (o k : Nat) : Prop where
  len : Z.length = zs.length
  same : ∀ i, i < o → Z[i]? = zs[i]?
  low : ∀ i, o ≤ i → i < o + 2 + 8 * k → Z[i]? = some 1024
  mid : ∀ i, o + 130 ≤ i → i < o + 130 + 8 * k → Z[i]? = some 1024
theorem St.start (zs : List Int) (o : Nat) (h : o + 514 ≤ zs.length) : St zs (fill zs o 2) o 0 := by
  refine ⟨fill_length _ _ _ (by omega), fun i hi => ?_, fun i h1 h2 => ?_, fun i h1 h2 => by omega⟩
  · rw [get_fill _ _ _ _ (by omega), if_neg (by omega)]
  · rw [get_fill _ _ _ _ (by omega), if_pos (by omega)]
theorem St.step {zs Z : List Int} {o k : Nat} (h : St zs Z o k) (hl : o + 514 ≤ zs.length) (hk : k < 16) : St zs (fill (fill Z (o + 2 + k * 8) 8) (o + 130 + k * 8) 8) o (k + 1) := by
  have l1 := h.len
  have l2 : (fill Z (o + 2 + k * 8) 8).length = Z.length := fill_length _ _ _ (by omega)
  refine ⟨by rw [fill_length _ _ _ (by omega)]; omega, fun i hi => ?_, fun i h1 h2 => ?_, fun i h1 h2 => ?_⟩
  · rw [get_fill _ _ _ _ (by omega), if_neg (by omega), get_fill _ _ _ _ (by omega), if_neg (by omega)]
    exact h.same i hi
  · rw [get_fill _ _ _ _ (by omega), get_fill _ _ _ _ (by omega)]
    split
    · rfl
    · split
      · rfl
      · exact h.low i h1 (by omega)
  · rw [get_fill _ _ _ _ (by omega), get_fill _ _ _ _ (by omega)]
    split
    · rfl
    · split
      · rfl
      · exact h.mid i h1 (by omega)
/-- What lengthProbs.reset leaves. -/
def EvenLen (w : World) (P o : Nat) (zs : List Int) (e : Ending) (w' : World) : Prop :=
  ∃ Z, e = .returned (.tuple #[]) ∧ RowP w' P Z ∧ Z.length = zs.length ∧ (∀ i, i < o → Z[i]? = zs[i]?) ∧ (∀ i, o ≤ i → i < o + 514 → Z[i]? = some 1024) ∧ w.grownBy w' (some P)

set_option maxHeartbeats 1000000 in
theorem len_any (P o : Nat) (zs : List Int) (w : World) (hrow : RowP w P zs) (hl : o + 514 ≤ zs.length) : Calls Try.prog 23 #[.pointer (some ⟨P, o, none⟩)] w (EvenLen w P o zs) := by
  go_enter Try.func23, Try.ntmps23
  go_wp2_with fail
  refine (reset_any P o 2 zs w hrow (by omega) (by omega)).mono ?_
  rintro e w1 ⟨rfl, hr1, hg1⟩
  go_wp2
  go_loopw [8] (fun v wr => ∃ k : Nat, k ≤ 16 ∧ v = .int .i64 k ∧ ∃ Z, RowP wr P Z ∧ St zs Z o k ∧ w.grownBy wr (some P)) (fun v _ => 16 - (intOf v).toNat)
  case atStart => exact ⟨0, by omega, rfl, _, hr1, St.start zs o hl, hg1⟩
  case round =>
    obtain ⟨k, hk, rfl, Z, hrz, hst, hgz⟩ := hrel
    have lz := hst.len
    have LZ : Hid (Z.length = zs.length) := lz
    clear lz
    by_cases hlt : k < 16
    · have hi : (k : Int) < 16 := by omega
      go_wp2_with fail
      refine (reset_any P (o + 2 + k * 8) 8 Z wr hrz (by rw [LZ.out]; omega) (by omega)).mono ?_
      rintro e w2 ⟨rfl, hr2, hg2⟩
      go_wp2_with fail
      refine (reset_any P (o + 130 + k * 8) 8 (fill Z (o + 2 + k * 8) 8) w2 hr2 (by rw [fill_length _ _ _ (by rw [LZ.out]; omega), LZ.out]; omega) (by omega)).mono ?_
      rintro e w3 ⟨rfl, hr3, hg3⟩
      have S := hst.step hl hlt
      have G := grown_trans (grown_trans hgz hg2) hg3
      clear hst hrz hr2 hg2 hg3 hgz
      go_wp2
      go_roundw
      case rel => exact ⟨k + 1, by omega, by go_num, _, hr3, S, G⟩
      case measure => simp [intOf]; omega
    · have e : k = 16 := by omega
      have hi : ¬ ((k : Int) < 16) := by omega
      have E : Hid (k = 16) := e
      clear e
      go_wp2_with fail
      refine (reset_any P (o + 258) 256 Z wr hrz (by rw [LZ.out]; omega) (by omega)).mono ?_
      rintro e w2 ⟨rfl, hr2, hg2⟩
      go_wp2
      go_end0
      refine ⟨_, rfl, hr2, by rw [fill_length _ _ _ (by rw [LZ.out]; omega)]; exact LZ.out, fun i h1 => ?_, fun i h1 h2 => ?_, grown_trans hgz hg2⟩
      · rw [get_fill _ _ _ _ (by rw [LZ.out]; omega), if_neg (by omega)]
        exact hst.same i h1
      · rw [get_fill _ _ _ _ (by rw [LZ.out]; omega)]
        split
        · rfl
        · by_cases h3 : i < o + 130
          · exact hst.low i h1 (by have := E.out; omega)
          · exact hst.mid i (by omega) (by have := E.out; omega)

/-! ### probs.reset -/
structure AllTo (Z : List Int) (b : Nat) : Prop where
  len : Z.length = 1847
  even : ∀ i, i < b → Z[i]? = some 1024
theorem AllTo.fill {Z : List Int} {b : Nat} (h : AllTo Z b) (n : Nat) (hb : b + n ≤ 1847) : AllTo (fill Z b n) (b + n) := by
  have l := h.len
  refine ⟨by rw [fill_length _ _ _ (by omega)]; exact l, fun i hi => ?_⟩
  rw [get_fill _ _ _ _ (by omega)]
  split
  · rfl
  · exact h.even i (by omega)
/-- What reset leaves: 1847 even odds. -/
def EvenAll (w : World) (P : Nat) (e : Ending) (w' : World) : Prop := ∃ Z, e = .returned (.tuple #[]) ∧ RowP w' P Z ∧ AllTo Z 1847 ∧ w.grownBy w' (some P)

/-- One stretch more. -/
def Step (w : World) (P b : Nat) (e : Ending) (w' : World) : Prop := ∃ Z, e = .returned (.tuple #[]) ∧ RowP w' P Z ∧ AllTo Z b ∧ w.grownBy w' (some P)
theorem reset_to (P o n b : Nat) (zs : List Int) (w : World) (hrow : RowP w P zs) (hA : AllTo zs o) (hb : o + n = b) (hl : b ≤ 1847) : Calls Try.prog 22 #[.slice (some ⟨P, o, none⟩) n n] w (Step w P b) := by
  subst hb
  exact (reset_any P o n zs w hrow (by rw [hA.len]; exact hl) (by omega)).mono fun e w' ⟨h1, h2, h3⟩ => ⟨_, h1, h2, hA.fill n hl, h3⟩
theorem len_to (P o b : Nat) (zs : List Int) (w : World) (hrow : RowP w P zs) (hA : AllTo zs o) (hb : o + 514 = b) (hl : b ≤ 1847) : Calls Try.prog 23 #[.pointer (some ⟨P, o, none⟩)] w (Step w P b) := by
  subst hb
  refine (len_any P o zs w hrow (by rw [hA.len]; exact hl)).mono fun e w' ⟨Z, h1, h2, h3, h4, h5, h6⟩ => ⟨Z, h1, h2, ⟨by rw [h3]; exact hA.len, fun i hi => ?_⟩, h6⟩
  by_cases h : i < o
  · rw [h4 i h]
    exact hA.even i h
  · exact h5 i (by omega) hi

set_option maxHeartbeats 1000000 in
theorem resets_any (P : Nat) (zs : List Int) (w : World) (hrow : RowP w P zs) (hl : zs.length = 1847) : Calls Try.prog 21 #[.pointer (some ⟨P, 0, none⟩)] w (EvenAll w P) := by
  obtain ⟨Z0, hZ0⟩ : ∃ Z, Z = zs := ⟨_, rfl⟩
  obtain ⟨w0, hw0⟩ : ∃ w0, w0 = w := ⟨_, rfl⟩
  have A0 : AllTo Z0 0 := ⟨by rw [hZ0]; exact hl, fun i hi => by omega⟩
  have r0 : RowP w0 P Z0 := by rw [hZ0, hw0]; exact hrow
  have g0 : w.grownBy w0 (some P) := by rw [hw0]; exact grown_refl _ _
  rw [show Calls Try.prog 21 #[.pointer (some ⟨P, 0, none⟩)] w (EvenAll w P) = Calls Try.prog 21 #[.pointer (some ⟨P, 0, none⟩)] w0 (EvenAll w P) by rw [hw0]]
  clear hZ0 hw0 hrow hl
  go_enter Try.func21, Try.ntmps21
  go_wp2_with fail
  refine (reset_to P 0 192 192 Z0 w0 r0 A0 (by omega) (by omega)).mono ?_
  rintro e w1 ⟨Z1, rfl, r1, A1, h1⟩
  have g1 := grown_trans g0 h1
  clear A0 r0 g0 h1
  go_wp2_with fail
  refine (reset_to P 192 12 204 Z1 w1 r1 A1 (by omega) (by omega)).mono ?_
  rintro e w2 ⟨Z2, rfl, r2, A2, h2⟩
  have g2 := grown_trans g1 h2
  clear A1 r1 g1 h2
  go_wp2_with fail
  refine (reset_to P 204 12 216 Z2 w2 r2 A2 (by omega) (by omega)).mono ?_
  rintro e w3 ⟨Z3, rfl, r3, A3, h3⟩
  have g3 := grown_trans g2 h3
  clear A2 r2 g2 h3
  go_wp2_with fail
  refine (reset_to P 216 12 228 Z3 w3 r3 A3 (by omega) (by omega)).mono ?_
  rintro e w4 ⟨Z4, rfl, r4, A4, h4⟩
  have g4 := grown_trans g3 h4
  clear A3 r3 g3 h4
  go_wp2_with fail
  refine (reset_to P 228 12 240 Z4 w4 r4 A4 (by omega) (by omega)).mono ?_
  rintro e w5 ⟨Z5, rfl, r5, A5, h5⟩
  have g5 := grown_trans g4 h5
  clear A4 r4 g4 h5
  go_wp2_with fail
  refine (reset_to P 240 192 432 Z5 w5 r5 A5 (by omega) (by omega)).mono ?_
  rintro e w6 ⟨Z6, rfl, r6, A6, h6⟩
  have g6 := grown_trans g5 h6
  clear A5 r5 g5 h6
  go_wp2
  go_loopw [33] (fun v wr => ∃ k : Nat, k ≤ 4 ∧ v = .int .i64 k ∧ ∃ Z, RowP wr P Z ∧ AllTo Z (432 + k * 64) ∧ w.grownBy wr (some P)) (fun v _ => 4 - (intOf v).toNat)
  case atStart => exact ⟨0, by omega, rfl, _, r6, A6, g6⟩
  case round =>
    obtain ⟨k, hk, rfl, Z, hrz, hA, hgz⟩ := hrel
    by_cases hlt : k < 4
    · have hi : (k : Int) < 4 := by omega
      go_wp2_with fail
      refine (reset_to P (432 + k * 64) 64 (432 + (k + 1) * 64) Z wr hrz hA (by omega) (by omega)).mono ?_
      rintro e w7 ⟨Z7, rfl, r7, A7, h7⟩
      have g7 := grown_trans hgz h7
      clear hA hrz hgz h7
      go_wp2
      go_roundw
      case rel => exact ⟨k + 1, by omega, by go_num, _, r7, A7, g7⟩
      case measure => simp [intOf]; omega
    · have e : k = 4 := by omega
      have hi : ¬ ((k : Int) < 4) := by omega
      rw [e] at hA
      clear e
      obtain ⟨Z7, hZ7⟩ : ∃ Z7, Z7 = Z := ⟨_, rfl⟩
      obtain ⟨w7, hw7⟩ : ∃ w7, w7 = wr := ⟨_, rfl⟩
      have r7 : RowP w7 P Z7 := by rw [hZ7, hw7]; exact hrz
      have A7 : AllTo Z7 688 := by rw [hZ7]; exact hA
      have g7 : w.grownBy w7 (some P) := by rw [hw7]; exact hgz
      rw [← hw7]
      clear hw7 hZ7 hA hrz hgz
      go_wp2_with fail
      refine (reset_to P 688 115 803 Z7 w7 r7 A7 (by omega) (by omega)).mono ?_
      rintro e w8 ⟨Z8, rfl, r8, A8, h8⟩
      have g8 := grown_trans g7 h8
      clear A7 r7 g7 h8
      go_wp2_with fail
      refine (reset_to P 803 16 819 Z8 w8 r8 A8 (by omega) (by omega)).mono ?_
      rintro e w9 ⟨Z9, rfl, r9, A9, h9⟩
      have g9 := grown_trans g8 h9
      clear A8 r8 g8 h9
      go_wp2_with fail
      refine (len_to P 819 1333 Z9 w9 r9 A9 (by omega) (by omega)).mono ?_
      rintro e w10 ⟨Z10, rfl, r10, A10, h10⟩
      have g10 := grown_trans g9 h10
      clear A9 r9 g9 h10
      go_wp2_with fail
      refine (len_to P 1333 1847 Z10 w10 r10 A10 (by omega) (by omega)).mono ?_
      rintro e w11 ⟨Z11, rfl, r11, A11, h11⟩
      have g11 := grown_trans g10 h11
      go_wp2
      go_end0
      exact ⟨Z11, rfl, r11, A11, g11⟩

theorem zzreset_any (P : Nat) (zs : List Int) (w : World) (hrow : RowP w P zs) (hl : zs.length = 1847) : Calls Try.prog 16 #[.pointer (some ⟨P, 0, none⟩)] w (EvenAll w P) := by
  go_enter Try.func16, Try.ntmps16
  go_wp2_with fail
  refine (resets_any P zs w hrow hl).mono ?_
  rintro e w1 ⟨Z, rfl, h1, h2, h3⟩
  go_wp2
  go_end0
  exact ⟨Z, rfl, h1, h2, h3⟩
end Go.Proofs.Qxb6000358a.Prob
