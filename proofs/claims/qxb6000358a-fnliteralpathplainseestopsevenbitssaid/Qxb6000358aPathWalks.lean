/-
  THE WALKS of literalPath (19) and ZZliteralPath (13).
-/
import Derived.Test.Qxb6000358aProg
import Derived.Test.Qxb6000358aPathMath
import Derived.WalkKit
import Derived.ProofKit
namespace Go.Proofs.Qxb6000358a
open Go.RowKit PathMath

def rowH (zs : List Int) : Array Value := (zs.map (Value.int .u16)).toArray
/-- Block g is an array of uint16, whole. -/
def RowH (w : World) (g : Nat) (zs : List Int) : Prop := w.heap[g]? = some (.cells (rowH zs) 28 (0, 0))
theorem RowH.lt {w : World} {g : Nat} {zs : List Int} (h : RowH w g zs) : g < w.heap.size := (Array.getElem?_eq_some_iff.1 h).1
theorem RowH.cell {w : World} {g : Nat} {zs : List Int} (h : RowH w g zs) {i : Nat} (hi : i < zs.length) : w.cell? ⟨g, i, none⟩ = some (.int .u16 (zs[i]?.getD 0)) := by
  rw [cell_of_row w g i _ _ _ h]
  simp [rowH, hi]
theorem RowH.free {w : World} {g : Nat} {zs : List Int} (h : RowH w g zs) (i : Nat) : w.frozen? ⟨g, i, none⟩ = false := frozen_of_row w g i _ _ h
theorem RowH.set {w : World} {g : Nat} {zs : List Int} (h : RowH w g zs) (i : Nat) (x : Int) : RowH (w.setCell ⟨g, i, none⟩ (.int .u16 x)) g (zs.set i x) := by
  unfold RowH
  rw [heap_setCell_same w g i _ _ _ h]
  simp [rowH, List.map_set]


/-- the path, whole -/
def pathL (c m : Int) : List Int := [en c m 8, en c m 7, en c m 6, en c m 5, en c m 4, en c m 3, en c m 2, en c m 1]
theorem path_done (c m : Int) (L : List Int) (hL : L.length = 8) (h : ∀ j, j + 0 < 8 → L[j]? = some (en c m (8 - j))) : L = pathL c m := by
  apply List.ext_getElem?
  intro j
  by_cases hj : j < 8
  · rw [h j (by omega)]
    rcases eight j hj with rfl | rfl | rfl | rfl | rfl | rfl | rfl | rfl <;> rfl
  · rw [List.getElem?_eq_none (by omega), List.getElem?_eq_none (by simp [pathL]; omega)]

theorem rel_next (c m : Int) (s : Nat) (hs : s < 8) (L : List Int) (hL : L.length = 8) (hen : ∀ j, j + (s + 1) < 8 → L[j]? = some (en c m (8 - j))) :
    (L.set (7 - s) (en c m (s + 1))).length = 8 ∧ ∀ j, j + s < 8 → (L.set (7 - s) (en c m (s + 1)))[j]? = some (en c m (8 - j)) := by
  refine ⟨by simpa using hL, fun j hj => ?_⟩
  rw [List.getElem?_set]
  by_cases h : 7 - s = j
  · rw [if_pos h, if_pos (by omega), show 8 - j = s + 1 by omega]
  · rw [if_neg h]
    exact hen j (by omega)

/-- What literalPath and ZZliteralPath leave. -/
def Pathed (w : World) (c m : Int) (e : Ending) (w' : World) : Prop :=
  e = .returned (.agg #[.int .u16 (en c m 8), .int .u16 (en c m 7), .int .u16 (en c m 6), .int .u16 (en c m 5), .int .u16 (en c m 4), .int .u16 (en c m 3), .int .u16 (en c m 2), .int .u16 (en c m 1)]) ∧ Below w.heap.size w w'

set_option maxHeartbeats 400000 in
theorem path_any (c m : Int) (c0 : 0 ≤ c) (c1 : c < 4294967296) (m0 : 0 ≤ m) (m1 : m < 4294967296) (w : World) :
    Calls Try.prog 19 #[.int .u32 c, .int .u32 m] w (Pathed w c m) := by
  go_enter Try.func19, Try.ntmps19
  go_wp2
  go_loopw [6, 7, 8] (fun v6 v7 v8 wr => ∃ r : Nat, r ≤ 8 ∧ v6 = .int .u32 (sy c r) ∧ v7 = .bool (mt c m r) ∧ v8 = .int .i64 ((r : Int) - 1) ∧ ∃ L, (L.length = 8 ∧ (∀ j, j + r < 8 → L[j]? = some (en c m (8 - j)))) ∧ RowH wr (w.heap.size + 1) L ∧ RowH wr w.heap.size [0, 0, 0, 0, 0, 0, 0, 0] ∧ Below w.heap.size w wr)
    (fun _ _ v8 _ => (intOf v8 + 1).toNat)
  case atStart =>
    refine ⟨8, Nat.le_refl _, by rw [sy_top], by rw [mt_top], rfl, [0, 0, 0, 0, 0, 0, 0, 0], ⟨rfl, fun j hj => by omega⟩, ?_, ?_, ?_⟩
    · have h := heap_alloc_new (w.alloc (Obj.cells (rowH [0, 0, 0, 0, 0, 0, 0, 0]) 28)) (Obj.cells (rowH [0, 0, 0, 0, 0, 0, 0, 0]) 28)
      rw [World.size_alloc] at h
      exact h
    · exact (heap_alloc_old _ _ (by simp)).trans (heap_alloc_new w (Obj.cells (rowH [0, 0, 0, 0, 0, 0, 0, 0]) 28))
    · exact ((Below.refl _ _).alloc (Nat.le_refl _) _).alloc (by simp) _
  case round =>
    obtain ⟨r, hr, rfl, rfl, rfl, L, hL, hrow, hrow0, hb⟩ := hrel
    have HL : Hid (L.length = 8 ∧ (∀ j, j + r < 8 → L[j]? = some (en c m (8 - j)))) := hL
    clear hL
    cases r with
    | zero =>
      have hp : L = pathL c m := path_done c m L HL.out.1 HL.out.2
      rw [hp] at hrow
      clear hp HL hr
      have d0 : wr.cell? ⟨w.heap.size + 1, 0, none⟩ = some (.int .u16 (en c m 8)) := hrow.cell (i := 0) (by simp [pathL])
      have d1 : wr.cell? ⟨w.heap.size + 1, 1, none⟩ = some (.int .u16 (en c m 7)) := hrow.cell (i := 1) (by simp [pathL])
      have d2 : wr.cell? ⟨w.heap.size + 1, 2, none⟩ = some (.int .u16 (en c m 6)) := hrow.cell (i := 2) (by simp [pathL])
      have d3 : wr.cell? ⟨w.heap.size + 1, 3, none⟩ = some (.int .u16 (en c m 5)) := hrow.cell (i := 3) (by simp [pathL])
      have d4 : wr.cell? ⟨w.heap.size + 1, 4, none⟩ = some (.int .u16 (en c m 4)) := hrow.cell (i := 4) (by simp [pathL])
      have d5 : wr.cell? ⟨w.heap.size + 1, 5, none⟩ = some (.int .u16 (en c m 3)) := hrow.cell (i := 5) (by simp [pathL])
      have d6 : wr.cell? ⟨w.heap.size + 1, 6, none⟩ = some (.int .u16 (en c m 2)) := hrow.cell (i := 6) (by simp [pathL])
      have d7 : wr.cell? ⟨w.heap.size + 1, 7, none⟩ = some (.int .u16 (en c m 1)) := hrow.cell (i := 7) (by simp [pathL])
      have z : ∀ i, i < 8 → wr.cell? ⟨w.heap.size, i, none⟩ = some (.int .u16 ([0, 0, 0, 0, 0, 0, 0, 0][i]?.getD 0)) := fun i hi => hrow0.cell hi
      have f := fun i => hrow0.free i
      have R8 := (((((((hrow0.set 0 (en c m 8)).set 1 (en c m 7)).set 2 (en c m 6)).set 3 (en c m 5)).set 4 (en c m 4)).set 5 (en c m 3)).set 6 (en c m 2)).set 7 (en c m 1)
      have B8 := (((((((hb.setCell (p := ⟨w.heap.size, 0, none⟩) (Nat.le_refl _) (.int .u16 (en c m 8))).setCell (p := ⟨w.heap.size, 1, none⟩) (Nat.le_refl _) (.int .u16 (en c m 7))).setCell (p := ⟨w.heap.size, 2, none⟩) (Nat.le_refl _) (.int .u16 (en c m 6))).setCell (p := ⟨w.heap.size, 3, none⟩) (Nat.le_refl _) (.int .u16 (en c m 5))).setCell (p := ⟨w.heap.size, 4, none⟩) (Nat.le_refl _) (.int .u16 (en c m 4))).setCell (p := ⟨w.heap.size, 5, none⟩) (Nat.le_refl _) (.int .u16 (en c m 3))).setCell (p := ⟨w.heap.size, 6, none⟩) (Nat.le_refl _) (.int .u16 (en c m 2))).setCell (p := ⟨w.heap.size, 7, none⟩) (Nat.le_refl _) (.int .u16 (en c m 1))
      go_wp2
      exact bodyPost_ret (results_cell_row Try.results19 _ _ w.heap.size 28 _ _ _ rfl R8 Try.underlying28 rfl (by kernel_rfl)) rfl ⟨rfl, B8⟩
    | succ s =>
      have hs : s < 8 := by omega
      have b1 := sy_bd c s hs
      have b2 := en_bd c m s hs
      have ri : ((s + 1 : Nat) : Int) - 1 = (s : Int) := by omega
      rw [ri]
      obtain ⟨B, hB⟩ : ∃ B, B = c / 2 ^ s % 2 := ⟨_, rfl⟩
      obtain ⟨M, hM⟩ : ∃ M, M = m / 2 ^ s % 2 := ⟨_, rfl⟩
      have xc : bits .and .u32 (c / 2 ^ s) 1 = B := by rw [hB]; exact and1_pow c s c0 c1
      have xm : bits .and .u32 (m / 2 ^ s) 1 = M := by rw [hM]; exact and1_pow m s m0 m1
      have xs : bits .or .u32 (sy c (s + 1) * 2) B = sy c s := by rw [hB]; exact sy_or c s hs
      have bB : 0 ≤ B ∧ B ≤ 1 := by omega
      have bM : 0 ≤ M ∧ M ≤ 1 := by omega
      have d1 := hrow.cell (i := 7 - s) (by rw [HL.out.1]; omega)
      have d2 := hrow.free (7 - s)
      have R := hrow.set (7 - s) (en c m (s + 1))
      have N : Hid ((L.set (7 - s) (en c m (s + 1))).length = 8 ∧ ∀ j, j + s < 8 → (L.set (7 - s) (en c m (s + 1)))[j]? = some (en c m (8 - j))) := rel_next c m s hs L HL.out.1 HL.out.2
      have R0 : RowH (wr.setCell ⟨w.heap.size + 1, 7 - s, none⟩ (.int .u16 (en c m (s + 1)))) w.heap.size [0, 0, 0, 0, 0, 0, 0, 0] := by
        unfold RowH
        rw [heap_setCell_other _ _ _ _ (by simp)]
        exact hrow0
      have B0 : Below w.heap.size w (wr.setCell ⟨w.heap.size + 1, 7 - s, none⟩ (.int .u16 (en c m (s + 1)))) := hb.setCell (by simp) _
      have si : (s : Int) - 1 = ((s : Nat) : Int) - 1 := rfl
      cases hm : mt c m (s + 1) with
      | true =>
        have xe : bits .or .u32 (sy c (s + 1)) ((1 + M) * 256) = en c m (s + 1) := by rw [hM]; exact en_yes c m s hs hm
        have xt : Hid ((B == M) = mt c m s) := by show _ = _; rw [hB, hM]; exact mt_step c m s hs hm
        clear hB hM hm si
        go_wp2
        go_roundw
        case rel => exact ⟨s, by omega, rfl, by rw [xt.out], rfl, _, N.out, R, R0, B0⟩
        case measure => simp [intOf]
      | false =>
        have xe : Hid (sy c (s + 1) = en c m (s + 1)) := en_no c m s hm
        have xt : Hid (false = mt c m s) := mt_stay c m s hs hm
        have xw : 0 ≤ sy c (s + 1) := by omega
        clear hB hM hm si
        rw [← xe.out] at R R0 B0
        go_wp2
        go_roundw
        case rel => exact ⟨s, by omega, rfl, by rw [← xt.out], rfl, _, by exact xe.out ▸ N.out, R, R0, B0⟩
        case measure => simp [intOf]

theorem row_of_new {w w1 : World} {cs : List Int} (hb : Below (w.heap.size + 1) (w.alloc (Obj.cells (rowH cs) 28)) w1) : RowH w1 w.heap.size cs :=
  (hb.block w.heap.size (by omega)).trans (heap_alloc_new w _)

set_option maxHeartbeats 400000 in
theorem zzpath_any (c m : Int) (c0 : 0 ≤ c) (c1 : c < 4294967296) (m0 : 0 ≤ m) (m1 : m < 4294967296) (w : World) :
    Calls Try.prog 13 #[.int .u32 c, .int .u32 m] w (Pathed w c m) := by
  go_enter Try.func13, Try.ntmps13
  go_wp2_with fail
  refine (path_any c m c0 c1 m0 m1 _).mono ?_
  rintro e w1 ⟨rfl, hb1⟩
  have hb1' : Below (w.heap.size + 1) (w.alloc (Obj.cells (rowH [0, 0, 0, 0, 0, 0, 0, 0]) 28)) w1 := by
    have h := hb1
    rw [World.size_alloc] at h
    exact h
  have hrow0 : RowH w1 w.heap.size [0, 0, 0, 0, 0, 0, 0, 0] := row_of_new hb1'
  have hb : Below w.heap.size w w1 := ((Below.refl _ _).alloc (Nat.le_refl _) _).trans (hb1'.mono (by omega))
  have z : ∀ i, i < 8 → w1.cell? ⟨w.heap.size, i, none⟩ = some (.int .u16 ([0, 0, 0, 0, 0, 0, 0, 0][i]?.getD 0)) := fun i hi => hrow0.cell hi
  have f := fun i => hrow0.free i
  have R8 := (((((((hrow0.set 0 (en c m 8)).set 1 (en c m 7)).set 2 (en c m 6)).set 3 (en c m 5)).set 4 (en c m 4)).set 5 (en c m 3)).set 6 (en c m 2)).set 7 (en c m 1)
  have B8 := (((((((hb.setCell (p := ⟨w.heap.size, 0, none⟩) (Nat.le_refl _) (.int .u16 (en c m 8))).setCell (p := ⟨w.heap.size, 1, none⟩) (Nat.le_refl _) (.int .u16 (en c m 7))).setCell (p := ⟨w.heap.size, 2, none⟩) (Nat.le_refl _) (.int .u16 (en c m 6))).setCell (p := ⟨w.heap.size, 3, none⟩) (Nat.le_refl _) (.int .u16 (en c m 5))).setCell (p := ⟨w.heap.size, 4, none⟩) (Nat.le_refl _) (.int .u16 (en c m 4))).setCell (p := ⟨w.heap.size, 5, none⟩) (Nat.le_refl _) (.int .u16 (en c m 3))).setCell (p := ⟨w.heap.size, 6, none⟩) (Nat.le_refl _) (.int .u16 (en c m 2))).setCell (p := ⟨w.heap.size, 7, none⟩) (Nat.le_refl _) (.int .u16 (en c m 1))
  clear hb1 hb1'
  go_wp2
  exact bodyPost_ret (results_cell_row Try.results13 _ _ w.heap.size 28 _ _ _ rfl R8 Try.underlying28 rfl (by kernel_rfl)) rfl ⟨rfl, B8⟩
end Go.Proofs.Qxb6000358a
