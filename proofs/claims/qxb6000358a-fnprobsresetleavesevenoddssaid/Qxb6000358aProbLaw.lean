/-
  THE WALK of FnProbsResetLeavesEvenOdds (9).
-/
import Derived.Test.Qxb6000358aProbCells
namespace Go.Proofs.Qxb6000358a.Prob
open Go.RowKit

/-! ### A row of uint16 of the call's own (element type 27) -/
def RowW (w : World) (g : Nat) (zs : List Int) : Prop := w.heap[g]? = some (.cells (rowP zs) 27 (0, 0))
theorem RowW.lt {w : World} {g : Nat} {zs : List Int} (h : RowW w g zs) : g < w.heap.size := (Array.getElem?_eq_some_iff.1 h).1
theorem RowW.cell {w : World} {g : Nat} {zs : List Int} (h : RowW w g zs) {i : Nat} (hi : i < zs.length) : w.cell? ⟨g, i, none⟩ = some (.int .u16 (zs[i]?.getD 0)) := by
  rw [cell_of_row w g i _ _ _ h]
  simp [rowP, hi]
theorem RowW.free {w : World} {g : Nat} {zs : List Int} (h : RowW w g zs) (i : Nat) : w.frozen? ⟨g, i, none⟩ = false := frozen_of_row w g i _ _ h
theorem RowW.set {w : World} {g : Nat} {zs : List Int} (h : RowW w g zs) (i : Nat) (x : Int) : RowW (w.setCell ⟨g, i, none⟩ (.int .u16 x)) g (zs.set i x) := by
  unfold RowW
  rw [heap_setCell_same w g i _ _ _ h]
  simp [rowP, List.map_set]
theorem RowW.kept {w w' : World} {g : Nat} {zs : List Int} {row : Option Nat} (h : RowW w g zs) (hg : w.grownBy w' row) (hne : some g ≠ row) : RowW w' g zs := by
  unfold RowW
  rw [hg.block g h.lt hne]
  exact h
theorem grown_below {w w' : World} (h : Below w.heap.size w w') (row : Option Nat) : w.grownBy w' row := ⟨h.os, h.tape, h.output, h.size, fun k hk _ => h.block k hk⟩
theorem below_grown {B : Nat} {w w' : World} {row : Option Nat} (h : w.grownBy w' row) (hB : B ≤ w.heap.size) (hr : ∀ g, row = some g → B ≤ g) : Below B w w' :=
  ⟨h.os, h.tape, h.output, h.size, fun k hk => h.block k (by omega) (fun e => by have := hr k e.symm; omega)⟩

theorem info27 : (Try.prog.info? 27).map (fun i => (i.zero, i.size, i.bytes)) = some (some (.int .u16 0), 1, 2) := by kernel_rfl
theorem made_u16 (n : Nat) : madeCells (Value.int .u16 0).cells (n * 1) = rowP (List.replicate n 0) := by
  apply Array.ext'
  rw [Nat.mul_one, show (Value.int .u16 0).cells = #[Value.int .u16 0] from rfl, toList_madeCells_one]
  simp [rowP]
/-- make([]uint16, n). -/
theorem wpList_make_u16 {w : World} {ops : Array Oper} {rest : List Oper} {o : Oper} {a : Act} {Q : Exit → Act → World → Prop}
    (hg : o.guard = none) (l c : Operand) (hop : o.op = Op.makeSlice 32 l c) (kl kc : IntKind) (N : Nat) (hl : a.eval l = .int kl N) (hc : a.eval c = .int kc N) (hN : N ≤ 4294967296)
    (hK : ∀ g w', w.heap.size ≤ g → RowW w' g (List.replicate N 0) → Below w.heap.size w w' → wpList Try.prog ops Q rest (a.put o.dst (.slice (some ⟨g, 0, none⟩) N N)) w') :
    wpList Try.prog ops Q (o :: rest) a w := by
  obtain ⟨i, hi, hz, hs, hb⟩ := info_parts info27
  refine wpList_plain hg fun K hK' => ?_
  have hrun := run_make (P := Try.prog) w 32 27 i (.int .u16 0) Try.underlying32 hi hz kl kc N N (by omega) (by omega) (by rw [hb]; omega) (by omega)
  rw [hs, Int.toNat_natCast, made_u16] at hrun
  unfold Oper.wp
  simp [execOp, hop, hl, hc, hrun, Result.andThen]
  exact hK' _ _ (hK w.heap.size _ (Nat.le_refl _) (heap_alloc_new w _) ((Below.refl _ _).alloc (Nat.le_refl _) _))

/-! ### var p lzma.ZZprobs -/
theorem alloc48 (w : World) : (Instr.alloc 48 true (.tuple #[])).run Try.prog w = .ok (.pointer (some ⟨w.heap.size, 0, none⟩)) (w.alloc (.cells (rowP (List.replicate 1847 0)) 48)) := by kernel_rfl
theorem wpList_alloc48 {w : World} {ops : Array Oper} {rest : List Oper} {o : Oper} {a : Act} {Q : Exit → Act → World → Prop}
    (hgd : o.guard = none) (ho : o.op = Op.alloc 48)
    (h : ∀ P Z w', w.heap.size ≤ P → P < w'.heap.size → Z.length = 1847 → RowP w' P Z → Below w.heap.size w w' → wpList Try.prog ops Q rest (a.put o.dst (.pointer (some ⟨P, 0, none⟩))) w') : wpList Try.prog ops Q (o :: rest) a w := by
  have hr := alloc48 w
  obtain ⟨Z, hZ⟩ : ∃ Z : List Int, Z = List.replicate 1847 0 := ⟨_, rfl⟩
  rw [← hZ] at hr
  have hl : Z.length = 1847 := by rw [hZ]; exact List.length_replicate
  clear hZ
  refine wpList_plain hgd fun K hK => ?_
  unfold Oper.wp
  simp [execOp, ho, hr, Result.andThen]
  exact hK _ _ (h w.heap.size Z _ (Nat.le_refl _) (by simp) hl (heap_alloc_new w _) ((Below.refl _ _).alloc (Nat.le_refl _) _))

/-! ### Plain facts on the eighty slices -/
theorem ofs_succ (i : Nat) (h : i < 80) : ofs (i + 1) = ofs i + ln i := by
  have : ∀ i : Fin 80, ofs (i.val + 1) = ofs i.val + ln i.val := by decide +kernel
  exact this ⟨i, h⟩
theorem ofs_le (i : Nat) (h : i < 80) : ofs i + ln i ≤ 1847 := by
  have : ∀ i : Fin 80, ofs i.val + ln i.val ≤ 1847 := by decide +kernel
  exact this ⟨i, h⟩
theorem ofs_zero : ofs 0 = 0 := rfl
theorem ofs_all : ofs 80 = 1847 := by decide +kernel

/-- The list of slices, as the law's loops read it. -/
theorem list_at {w : World} {base P : Nat} {v : Value} (h : w.ownsRow base 52 1 v 80 (clL P 80)) :
    ∃ C cap, v = .slice (some ⟨C, 0, none⟩) 80 cap ∧ base ≤ C ∧ C < w.heap.size ∧ ∀ i, i < 80 → w.cell? ⟨C, i, none⟩ = some (.slice (some ⟨P, ofs i, none⟩) (ln i) (ln i)) := by
  rcases h.2 with ⟨_, h0⟩ | ⟨C, cap, cur, hv, hb, hg, _, _, _, ht⟩
  · omega
  · refine ⟨C, cap, hv, hb, (Array.getElem?_eq_some_iff.1 hg).1, fun i hi => ?_⟩
    rw [cell_of_row w C i cur 52 _ hg]
    have e : (cur.toList.take (80 * 1))[i]? = (clL P 80)[i]? := by rw [ht]
    rw [List.getElem?_take, if_pos (by omega)] at e
    rw [← Array.getElem?_toList, e]
    simp [clL, hi, cl]

/-! ### The bound on the length -/
theorem bytes_ok (a : Option Addr) (len cap : Nat) (w : World) (h : len ≤ 1048576) : Calls Try.prog 14 #[.slice a len cap] w fun e w' => e = .returned (.bool true) ∧ w = w' := by
  go_enter Try.func14, Try.ntmps14
  go_wp2
  go_ret
  exact ⟨rfl, rfl⟩
theorem bytes_no (a : Option Addr) (len cap : Nat) (w : World) (h : 1048576 < len) : Calls Try.prog 14 #[.slice a len cap] w fun e w' => e = .returned (.bool false) ∧ w = w' := by
  go_enter Try.func14, Try.ntmps14
  go_wp2
  go_ret
  exact ⟨rfl, rfl⟩
theorem law_big (a : Option Addr) (len cap : Nat) (w : World) (h : 1048576 < len) : Calls Try.prog 9 #[.slice a len cap] w fun e w' => e = .returned (.bool true) ∧ Below w.heap.size w w' := by
  go_enter Try.func9, Try.ntmps9
  go_wp2_with (go_at_call 14; refine (bytes_no _ _ _ _ h).mono ?_; rintro e w' ⟨rfl, rfl⟩)
  go_ret
  exact ⟨rfl, Below.refl _ _⟩
theorem law_long (a : Option Addr) (len cap : Nat) (w : World) (h : len ≤ 1048576) (h2 : 65536 < len) : Calls Try.prog 9 #[.slice a len cap] w fun e w' => e = .returned (.bool true) ∧ Below w.heap.size w w' := by
  go_enter Try.func9, Try.ntmps9
  go_wp2_with (go_at_call 14; refine (bytes_ok _ _ _ _ h).mono ?_; rintro e w' ⟨rfl, rfl⟩)
  go_ret
  exact ⟨rfl, Below.refl _ _⟩

set_option maxHeartbeats 1000000 in
theorem law_nil (w : World) : Calls Try.prog 9 #[.slice none 0 0] w fun e w' => e = .returned (.bool true) ∧ Below w.heap.size w w' := by
  have hnil := fun (wx : World) => run_neq_slice_nil_any (P := Try.prog) wx 32 27 none 0 0 0 0 Try.underlying32
  go_enter Try.func9, Try.ntmps9
  go_wp2_with (first
    | (go_at_call 14; refine (bytes_ok _ _ _ _ (by omega)).mono ?_; rintro e w' ⟨rfl, rfl⟩)
    | (with_reducible (show wpList _ _ _ ({ dst := some 5, op := _, type := _, pos := _, after := _, guard := _ } :: _) _ _); go_must (refine wpList_alloc48 rfl rfl ?_); intro P Z w1 hP hP1 hZ hrow hb1))
  refine (cells_any P w1).mono ?_
  rintro e w2 ⟨v6, rfl, hown, hb2⟩
  obtain ⟨C, capC, rfl, hC, hC2, hcell⟩ := list_at hown
  have hrow2 : RowP w2 P Z := hrow.kept (grown_below hb2 none) (by simp)
  have HC : Hid (∀ i, i < 80 → w2.cell? ⟨C, i, none⟩ = some (.slice (some ⟨P, ofs i, none⟩) (ln i) (ln i))) := hcell
  have HZ : Hid (Z.length = 1847) := hZ
  have hPC : P < C := by omega
  clear hcell hown hrow hZ
  go_wp2
  go_loop [7, 8, 9] (fun v7 v8 v9 => ∃ i : Nat, i ≤ 80 ∧ v7 = .int .i64 0 ∧ v8 = .int .i64 (ofs i) ∧ v9 = .int .i64 i) (fun _ _ v9 => 80 - (intOf v9).toNat)
  case atStart => exact ⟨0, by omega, rfl, rfl, rfl⟩
  case round =>
    obtain ⟨i, hi, rfl, rfl, rfl⟩ := hrel
    by_cases hlt : i < 80
    · have hI : (i : Int) < 80 := by omega
      have hc := HC.out i hlt
      have hO := ofs_le i hlt
      have HS : Hid (ofs (i + 1) = ofs i + ln i) := ofs_succ i hlt
      go_wp2
      go_loop [7, 8, 10] (fun v7 v8 v10 => ∃ j : Nat, j ≤ ln i ∧ v7 = .int .i64 0 ∧ v8 = .int .i64 (ofs i + j) ∧ v10 = .int .i64 j) (fun _ _ v10 => ln i - (intOf v10).toNat)
      case atStart => exact ⟨0, Nat.zero_le _, rfl, by go_num, rfl⟩
      case round =>
        obtain ⟨j, hj, rfl, rfl, rfl⟩ := hrel
        by_cases hjl : j < ln i
        · have hJ : (j : Int) < (ln i : Int) := by omega
          go_wp2
          go_round
          case rel => exact ⟨j + 1, by omega, rfl, by go_num, by go_num⟩
          case measure => simp [intOf]; omega
        · have hJ : ¬ ((j : Int) < (ln i : Int)) := by omega
          have hJe : (ofs i : Int) + (j : Int) = (ofs (i + 1) : Int) := by have := HS.out; omega
          go_wp2
          go_round
          case rel => exact ⟨i + 1, by omega, rfl, congrArg (Value.int .i64) hJe, by go_num⟩
          case measure => simp [intOf]; omega
    · have hI : ¬ ((i : Int) < 80) := by omega
      have e : i = 80 := by omega
      have E : Hid (i = 80) := e
      clear e
      go_wp2_with fail
      refine (zzreset_any P Z w2 hrow2 HZ.out).mono ?_
      rintro e w3 ⟨Z3, rfl, hr3, hA, hg3⟩
      have HC3 : Hid (∀ i, i < 80 → w3.cell? ⟨C, i, none⟩ = some (.slice (some ⟨P, ofs i, none⟩) (ln i) (ln i))) := by
        intro i hi
        rw [World.cell?_of_block (w := w2) (hg3.block C hC2 (by simp; omega))]
        exact HC.out i hi
      have HE : Hid (∀ i j, i < 80 → j < ln i → w3.cell? ⟨P, ofs i + j, none⟩ = some (.int .u16 1024)) := by
        intro i j hi hj
        have h := ofs_le i hi
        rw [hr3.cell (by rw [hA.len]; omega), hA.even _ (by omega)]
        rfl
      have KK : Below w.heap.size w w3 := (hb1.trans (hb2.mono hb1.size)).trans (below_grown hg3 (Nat.le_trans hb1.size hb2.size) (fun g hg => by simp at hg; omega))
      have tt : (ofs i : Int) = 1847 := by rw [E.out, ofs_all]; rfl
      have TT : Hid ((ofs i : Int) = 1847) := tt
      clear HC hr3 hA hg3 hrow2 HZ tt
      go_wp2
      go_loop [11] (fun v11 => ∃ i : Nat, i ≤ 80 ∧ v11 = .int .i64 i) (fun v11 => 80 - (intOf v11).toNat)
      case atStart => exact ⟨0, by omega, rfl⟩
      case round =>
        obtain ⟨i1, hi1, rfl⟩ := hrel
        by_cases hlt1 : i1 < 80
        · have hI1 : (i1 : Int) < 80 := by omega
          have hc := HC3.out i1 hlt1
          have hO := ofs_le i1 hlt1
          go_wp2
          go_loop [12] (fun v12 => ∃ j : Nat, j ≤ ln i1 ∧ v12 = .int .i64 j) (fun v12 => ln i1 - (intOf v12).toNat)
          case atStart => exact ⟨0, Nat.zero_le _, rfl⟩
          case round =>
            obtain ⟨j, hj, rfl⟩ := hrel
            by_cases hjl : j < ln i1
            · have hJ : (j : Int) < (ln i1 : Int) := by omega
              have hp := HE.out i1 j hlt1 hjl
              go_wp2
              go_round
              case rel => exact ⟨j + 1, by omega, by go_num⟩
              case measure => simp [intOf]; omega
            · have hJ : ¬ ((j : Int) < (ln i1 : Int)) := by omega
              go_wp2
              go_round
              case rel => exact ⟨i1 + 1, by omega, by go_num⟩
              case measure => simp [intOf]; omega
        · have hI1 : ¬ ((i1 : Int) < 80) := by omega
          go_wp2
          go_ret
          refine ⟨congrArg (fun b => Ending.returned (Value.bool b)) (?_ : ((ofs i : Int) == 1847) = true), KK⟩
          rw [TT.out]
          rfl

set_option maxHeartbeats 1000000 in
theorem law_empty (x : Addr) (cap0 : Nat) (w : World) : Calls Try.prog 9 #[.slice (some x) 0 cap0] w fun e w' => e = .returned (.bool true) ∧ Below w.heap.size w w' := by
  have hnil := fun (wx : World) => run_neq_slice_nil_any (P := Try.prog) wx 32 27 (some x) 0 cap0 0 0 Try.underlying32
  go_enter Try.func9, Try.ntmps9
  go_wp2_with (first
    | (go_at_call 14; refine (bytes_ok _ _ _ _ (by omega)).mono ?_; rintro e w' ⟨rfl, rfl⟩)
    | (at_make; go_must (refine wpList_make_u16 rfl _ _ rfl .i64 .i64 0 rfl rfl (by omega) ?_); intro G wG hG hrG hbG))
  refine wp_loop_rounds 1 ?_
  rw [rounds_succ]
  go_wp2_with (with_reducible (show wpList _ _ _ ({ dst := some 5, op := _, type := _, pos := _, after := _, guard := _ } :: _) _ _); go_must (refine wpList_alloc48 rfl rfl ?_); intro P Z w1 hP hP1 hZ hrow hb1)
  refine (cells_any P w1).mono ?_
  rintro e w2 ⟨v6, rfl, hown, hb2⟩
  obtain ⟨C, capC, rfl, hC, hC2, hcell⟩ := list_at hown
  have hrow2 : RowP w2 P Z := hrow.kept (grown_below hb2 none) (by simp)
  have HC : Hid (∀ i, i < 80 → w2.cell? ⟨C, i, none⟩ = some (.slice (some ⟨P, ofs i, none⟩) (ln i) (ln i))) := hcell
  have HZ : Hid (Z.length = 1847) := hZ
  have hPC : P < C := by omega
  clear hcell hown hrow hZ
  go_wp2
  go_loop [7, 8, 9] (fun v7 v8 v9 => ∃ i : Nat, i ≤ 80 ∧ v7 = .int .i64 0 ∧ v8 = .int .i64 (ofs i) ∧ v9 = .int .i64 i) (fun _ _ v9 => 80 - (intOf v9).toNat)
  case atStart => exact ⟨0, by omega, rfl, rfl, rfl⟩
  case round =>
    obtain ⟨i, hi, rfl, rfl, rfl⟩ := hrel
    by_cases hlt : i < 80
    · have hI : (i : Int) < 80 := by omega
      have hc := HC.out i hlt
      have hO := ofs_le i hlt
      have HS : Hid (ofs (i + 1) = ofs i + ln i) := ofs_succ i hlt
      go_wp2
      go_loop [7, 8, 10] (fun v7 v8 v10 => ∃ j : Nat, j ≤ ln i ∧ v7 = .int .i64 0 ∧ v8 = .int .i64 (ofs i + j) ∧ v10 = .int .i64 j) (fun _ _ v10 => ln i - (intOf v10).toNat)
      case atStart => exact ⟨0, Nat.zero_le _, rfl, by go_num, rfl⟩
      case round =>
        obtain ⟨j, hj, rfl, rfl, rfl⟩ := hrel
        by_cases hjl : j < ln i
        · have hJ : (j : Int) < (ln i : Int) := by omega
          go_wp2
          go_round
          case rel => exact ⟨j + 1, by omega, rfl, by go_num, by go_num⟩
          case measure => simp [intOf]; omega
        · have hJ : ¬ ((j : Int) < (ln i : Int)) := by omega
          have hJe : (ofs i : Int) + (j : Int) = (ofs (i + 1) : Int) := by have := HS.out; omega
          go_wp2
          go_round
          case rel => exact ⟨i + 1, by omega, rfl, congrArg (Value.int .i64) hJe, by go_num⟩
          case measure => simp [intOf]; omega
    · have hI : ¬ ((i : Int) < 80) := by omega
      have e : i = 80 := by omega
      have E : Hid (i = 80) := e
      clear e
      go_wp2_with fail
      refine (zzreset_any P Z w2 hrow2 HZ.out).mono ?_
      rintro e w3 ⟨Z3, rfl, hr3, hA, hg3⟩
      have HC3 : Hid (∀ i, i < 80 → w3.cell? ⟨C, i, none⟩ = some (.slice (some ⟨P, ofs i, none⟩) (ln i) (ln i))) := by
        intro i hi
        rw [World.cell?_of_block (w := w2) (hg3.block C hC2 (by simp; omega))]
        exact HC.out i hi
      have HE : Hid (∀ i j, i < 80 → j < ln i → w3.cell? ⟨P, ofs i + j, none⟩ = some (.int .u16 1024)) := by
        intro i j hi hj
        have h := ofs_le i hi
        rw [hr3.cell (by rw [hA.len]; omega), hA.even _ (by omega)]
        rfl
      have KK : Below w.heap.size w w3 := ((hbG.trans (hb1.mono hbG.size)).trans (hb2.mono (Nat.le_trans hbG.size hb1.size))).trans (below_grown hg3 (by have := hbG.size; have := hb1.size; have := hb2.size; omega) (fun g hg => by simp at hg; have := hbG.size; omega))
      have tt : (ofs i : Int) = 1847 := by rw [E.out, ofs_all]; rfl
      have TT : Hid ((ofs i : Int) = 1847) := tt
      clear HC hr3 hA hg3 hrow2 HZ tt
      go_wp2
      go_loop [11] (fun v11 => ∃ i : Nat, i ≤ 80 ∧ v11 = .int .i64 i) (fun v11 => 80 - (intOf v11).toNat)
      case atStart => exact ⟨0, by omega, rfl⟩
      case round =>
        obtain ⟨i1, hi1, rfl⟩ := hrel
        by_cases hlt1 : i1 < 80
        · have hI1 : (i1 : Int) < 80 := by omega
          have hc := HC3.out i1 hlt1
          have hO := ofs_le i1 hlt1
          go_wp2
          go_loop [12] (fun v12 => ∃ j : Nat, j ≤ ln i1 ∧ v12 = .int .i64 j) (fun v12 => ln i1 - (intOf v12).toNat)
          case atStart => exact ⟨0, Nat.zero_le _, rfl⟩
          case round =>
            obtain ⟨j, hj, rfl⟩ := hrel
            by_cases hjl : j < ln i1
            · have hJ : (j : Int) < (ln i1 : Int) := by omega
              have hp := HE.out i1 j hlt1 hjl
              go_wp2
              go_round
              case rel => exact ⟨j + 1, by omega, by go_num⟩
              case measure => simp [intOf]; omega
            · have hJ : ¬ ((j : Int) < (ln i1 : Int)) := by omega
              go_wp2
              go_round
              case rel => exact ⟨i1 + 1, by omega, by go_num⟩
              case measure => simp [intOf]; omega
        · have hI1 : ¬ ((i1 : Int) < 80) := by omega
          go_wp2
          go_ret
          refine ⟨congrArg (fun b => Ending.returned (Value.bool b)) (?_ : ((ofs i : Int) == 1847) = true), KK⟩
          rw [TT.out]
          rfl

theorem grown_drew {a b : World} {row : Option Nat} (h : a.grownBy b row) : a.grownBy b.drew row := ⟨h.os, h.tape, h.output, h.size, h.block⟩

set_option maxHeartbeats 2000000 in
theorem law_full (b off n cap0 : Nat) (z0 : List Int) (w : World) (hn0 : 0 < n) (hn : n ≤ 65536) (hsrc : ∀ j, j < n → w.cell? ⟨b, off + j, none⟩ = some (.int .u16 (z0[j]?.getD 0))) :
    Calls Try.prog 9 #[.slice (some ⟨b, off, none⟩) n cap0] w fun e w' => e = .returned (.bool true) ∧ Below w.heap.size w w' := by
  have hnil := fun (wx : World) => run_neq_slice_nil_any (P := Try.prog) wx 32 27 (some ⟨b, off, none⟩) n cap0 0 0 Try.underlying32
  have hbw : b < w.heap.size := World.block_lt_of_cell? w _ (hsrc 0 hn0)
  have HS0 : Hid (∀ j, j < n → w.cell? ⟨b, off + j, none⟩ = some (.int .u16 (z0[j]?.getD 0))) := hsrc
  clear hsrc
  go_enter Try.func9, Try.ntmps9
  go_wp2_with (first
    | (go_at_call 14; refine (bytes_ok _ _ _ _ (by omega)).mono ?_; rintro e w' ⟨rfl, rfl⟩)
    | (at_make; go_must (refine wpList_make_u16 rfl _ _ rfl .i64 .i64 n rfl rfl (by omega) ?_); intro G wG hG hrG hbG))
  go_loopw [4] (fun v4 wr => ∃ k : Nat, k ≤ n ∧ v4 = .int .i64 k ∧ ∃ zs, RowW wr G zs ∧ zs.length = n ∧ wG.grownBy wr (some G)) (fun v4 _ => n - (intOf v4).toNat)
  case atStart => exact ⟨0, Nat.zero_le _, rfl, _, hrG, by simp, grown_refl _ _⟩
  case round =>
    clear hrG
    obtain ⟨k, hk, rfl, zs, hrw, hzl, hgw⟩ := hrel
    have HZL : Hid (zs.length = n) := hzl
    clear hzl
    by_cases hkn : k < n
    · have hK : (k : Int) < (n : Int) := by omega
      have c0 : wr.cell? ⟨b, off + k, none⟩ = some (.int .u16 (z0[k]?.getD 0)) := by
        rw [World.cell?_of_block (w := wG) (hgw.block b (Nat.lt_of_lt_of_le hbw hbG.size) (by simp; omega)), World.cell?_of_block (w := w) (hbG.block b hbw)]
        exact HS0.out k hkn
      have c1 := hrw.cell (i := k) (by rw [HZL.out]; exact hkn)
      have c2 := hrw.free k
      have R := hrw.set k (z0[k]?.getD 0)
      go_wp2
      go_roundw
      case rel => exact ⟨k + 1, by omega, by go_num, _, R, by simpa using HZL.out, grown_trans hgw (grown_setCell _ _ _ _)⟩
      case measure => simp [intOf]; omega
    · have hK : ¬ ((k : Int) < (n : Int)) := by omega
      obtain ⟨wc, hwc⟩ : ∃ wc, wc = wr := ⟨_, rfl⟩
      rw [← hwc] at hrw hgw ⊢
      clear hwc HS0
      have hbC : Below w.heap.size w wc := hbG.trans (below_grown hgw hbG.size (fun g hg => by simp at hg; omega))
      go_wp2_with (with_reducible (show wpList _ _ _ ({ dst := some 5, op := _, type := _, pos := _, after := _, guard := _ } :: _) _ _); go_must (refine wpList_alloc48 rfl rfl ?_); intro P Z w1 hP hP1 hZ hrow hb1)
      refine (cells_any P w1).mono ?_
      rintro e w2 ⟨v6, rfl, hown, hb2⟩
      obtain ⟨C, capC, rfl, hC, hC2, hcell⟩ := list_at hown
      have hrow2 : RowP w2 P Z := hrow.kept (grown_below hb2 none) (by simp)
      have hrw2 : RowW w2 G zs := (hrw.kept (grown_below hb1 none) (by simp)).kept (grown_below hb2 none) (by simp)
      have HC : Hid (∀ i, i < 80 → w2.cell? ⟨C, i, none⟩ = some (.slice (some ⟨P, ofs i, none⟩) (ln i) (ln i))) := hcell
      have HZ : Hid (Z.length = 1847) := hZ
      have hPC : P < C := by omega
      have hGP : G < P := Nat.lt_of_lt_of_le hrw.lt hP
      have hG2 := hrw2.lt
      have hP2 := hrow2.lt
      have HG : Hid (∀ wx, w2.grownBy wx (some P) → ∀ k, k < n → wx.cell? ⟨G, k, none⟩ = some (.int .u16 (zs[k]?.getD 0))) := by
        intro wx hx k hk
        rw [World.cell?_of_block (w := w2) (hx.block G hG2 (by simp; omega))]
        exact hrw2.cell (by rw [HZL.out]; exact hk)
      have HCx : Hid (∀ wx, w2.grownBy wx (some P) → ∀ i, i < 80 → wx.cell? ⟨C, i, none⟩ = some (.slice (some ⟨P, ofs i, none⟩) (ln i) (ln i))) := by
        intro wx hx i hi
        rw [World.cell?_of_block (w := w2) (hx.block C hC2 (by simp; omega))]
        exact HC.out i hi
      clear hcell hown hrow hZ hrw hrw2 hgw HC
      go_wp2
      go_loopw [7, 8, 9] (fun v7 v8 v9 wr => ∃ i : Nat, i ≤ 80 ∧ ∃ kk : Nat, kk < n ∧ v7 = .int .i64 kk ∧ v8 = .int .i64 (ofs i) ∧ v9 = .int .i64 i ∧ ∃ Z, RowP wr P Z ∧ Z.length = 1847 ∧ w2.grownBy wr (some P)) (fun _ _ v9 _ => 80 - (intOf v9).toNat)
      case atStart => exact ⟨0, by omega, 0, hn0, rfl, rfl, rfl, Z, hrow2, HZ.out, grown_refl _ _⟩
      case round =>
        clear hrow2 HZ
        obtain ⟨i, hi, kk, hkk, rfl, rfl, rfl, Zi, hri, hli, hgi⟩ := hrel
        have HLI : Hid (Zi.length = 1847) := hli
        clear hli
        by_cases hlt : i < 80
        · have hI : (i : Int) < 80 := by omega
          have hc := HCx.out wr hgi i hlt
          have hO := ofs_le i hlt
          have HS : Hid (ofs (i + 1) = ofs i + ln i) := ofs_succ i hlt
          go_wp2
          go_loopw [7, 8, 10] (fun v7 v8 v10 wy => ∃ j : Nat, j ≤ ln i ∧ ∃ kk : Nat, kk < n ∧ v7 = .int .i64 kk ∧ v8 = .int .i64 (ofs i + j) ∧ v10 = .int .i64 j ∧ ∃ Z, RowP wy P Z ∧ Z.length = 1847 ∧ w2.grownBy wy (some P)) (fun _ _ v10 _ => ln i - (intOf v10).toNat)
          case atStart => exact ⟨0, Nat.zero_le _, kk, hkk, rfl, by go_num, rfl, Zi, hri, HLI.out, hgi⟩
          case round =>
            clear hri HLI hc hgi
            obtain ⟨j, hj, kj, hkj, rfl, rfl, rfl, Zj, hrj, hlj, hgj⟩ := hrel
            have HLJ : Hid (Zj.length = 1847) := hlj
            clear hlj
            have hc := HCx.out _ hgj i hlt
            by_cases hjl : j < ln i
            · have hJ : (j : Int) < (ln i : Int) := by omega
              have hKJ : (kj : Int) < (n : Int) := by omega
              have hN : (0 : Int) < (n : Int) := by omega
              have hw := HG.out _ hgj kj hkj
              have hp := hrj.cell (i := ofs i + j) (by rw [HLJ.out]; omega)
              have hf := hrj.free (ofs i + j)
              have R := hrj.set (ofs i + j) (zs[kj]?.getD 0)
              have GJ := grown_trans hgj (grown_setCell _ P (ofs i + j) (.int .u16 (zs[kj]?.getD 0)))
              by_cases hwr : kj + 1 = n
              · have tst : ((kj : Int) + 1 == (n : Int)) = true := by simp; omega
                have HW : Hid (kj + 1 = n) := hwr
                clear hwr
                go_wp2
                go_region
                go_wp2
                go_roundw
                case rel => exact ⟨j + 1, by omega, 0, hn0, rfl, by go_num, by go_num, _, R, by simpa using HLJ.out, grown_drew GJ⟩
                case measure => simp [intOf]; omega
              · have tst : ((kj : Int) + 1 == (n : Int)) = false := by simp; omega
                go_wp2
                go_region
                go_wp2
                go_roundw
                case rel => exact ⟨j + 1, by omega, kj + 1, by omega, by go_num, by go_num, by go_num, _, R, by simpa using HLJ.out, grown_drew GJ⟩
                case measure => simp [intOf]; omega
            · have hJ : ¬ ((j : Int) < (ln i : Int)) := by omega
              have hJe : (ofs i : Int) + (j : Int) = (ofs (i + 1) : Int) := by have := HS.out; omega
              go_wp2
              go_roundw
              case rel => exact ⟨i + 1, by omega, kj, hkj, rfl, congrArg (Value.int .i64) hJe, by go_num, _, hrj, HLJ.out, hgj⟩
              case measure => simp [intOf]; omega
        · have hI : ¬ ((i : Int) < 80) := by omega
          have e : i = 80 := by omega
          have E : Hid (i = 80) := e
          clear e
          obtain ⟨w9, hw9⟩ : ∃ w9, w9 = wr := ⟨_, rfl⟩
          rw [← hw9] at hri hgi ⊢
          clear hw9
          have KB : Below w.heap.size w w2 := (hbC.trans (hb1.mono hbC.size)).trans (hb2.mono (Nat.le_trans hbC.size hb1.size))
          have hwP : w.heap.size ≤ P := Nat.le_trans hbC.size hP
          go_wp2_with fail
          refine (zzreset_any P Zi w9 hri HLI.out).mono ?_
          rintro e w3 ⟨Z3, rfl, hr3, hA, hg3⟩
          have HC3 : Hid (∀ i, i < 80 → w3.cell? ⟨C, i, none⟩ = some (.slice (some ⟨P, ofs i, none⟩) (ln i) (ln i))) := by
            intro i hi
            rw [World.cell?_of_block (w := w9) (hg3.block C (Nat.lt_of_lt_of_le hC2 hgi.size) (by simp; omega))]
            exact HCx.out w9 hgi i hi
          have HE : Hid (∀ i j, i < 80 → j < ln i → w3.cell? ⟨P, ofs i + j, none⟩ = some (.int .u16 1024)) := by
            intro i j hi hj
            have h := ofs_le i hi
            rw [hr3.cell (by rw [hA.len]; omega), hA.even _ (by omega)]
            rfl
          have KK : Below w.heap.size w w3 := (KB.trans (below_grown hgi KB.size (fun g hg => by simp at hg; omega))).trans (below_grown hg3 (Nat.le_trans KB.size hgi.size) (fun g hg => by simp at hg; omega))
          have tt : (ofs i : Int) = 1847 := by rw [E.out, ofs_all]; rfl
          have TT : Hid ((ofs i : Int) = 1847) := tt
          clear hr3 hA hg3 hri HLI tt HG HCx
          go_wp2
          go_loop [11] (fun v11 => ∃ i : Nat, i ≤ 80 ∧ v11 = .int .i64 i) (fun v11 => 80 - (intOf v11).toNat)
          case atStart => exact ⟨0, by omega, rfl⟩
          case round =>
            obtain ⟨i1, hi1, rfl⟩ := hrel
            by_cases hlt1 : i1 < 80
            · have hI1 : (i1 : Int) < 80 := by omega
              have hc := HC3.out i1 hlt1
              have hO := ofs_le i1 hlt1
              go_wp2
              go_loop [12] (fun v12 => ∃ j : Nat, j ≤ ln i1 ∧ v12 = .int .i64 j) (fun v12 => ln i1 - (intOf v12).toNat)
              case atStart => exact ⟨0, Nat.zero_le _, rfl⟩
              case round =>
                obtain ⟨j, hj, rfl⟩ := hrel
                by_cases hjl : j < ln i1
                · have hJ : (j : Int) < (ln i1 : Int) := by omega
                  have hp := HE.out i1 j hlt1 hjl
                  go_wp2
                  go_round
                  case rel => exact ⟨j + 1, by omega, by go_num⟩
                  case measure => simp [intOf]; omega
                · have hJ : ¬ ((j : Int) < (ln i1 : Int)) := by omega
                  go_wp2
                  go_round
                  case rel => exact ⟨i1 + 1, by omega, by go_num⟩
                  case measure => simp [intOf]; omega
            · have hI1 : ¬ ((i1 : Int) < 80) := by omega
              go_wp2
              go_ret
              refine ⟨congrArg (fun b => Ending.returned (Value.bool b)) (?_ : ((ofs i : Int) == 1847) = true), KK⟩
              rw [TT.out]
              rfl
end Go.Proofs.Qxb6000358a.Prob
