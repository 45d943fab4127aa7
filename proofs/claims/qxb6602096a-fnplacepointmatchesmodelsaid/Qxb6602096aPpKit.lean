/-
  THE MEMORY OF A BYTE SLICE OF THE CALL's OWN: a whole block of bytes, known cell by cell. Laws for copy, append-of-make, a store. Over this seat's program (types 26: []byte, 5: byte).
-/
import Derived.Test.Qxb6602096aProg
import Derived.WalkKit
import Derived.ProofKit
import Derived.Laws.CopyOwn
import Derived.Lib.AppendZeros
import Derived.Deep.QuietTactic
import Derived.BigQuiet
namespace Go.Proofs.Qxb6602096a
open Go.RowKit

/-- The cells of a list of bytes. -/
def rowV (zs : List Int) : Array Value := (zs.map (Value.int .u8)).toArray
/-- Block g is a row of bytes, whole. -/
def Row (w : World) (g : Nat) (zs : List Int) : Prop := w.heap[g]? = some (.cells (rowV zs) 5 (0, 0))

theorem Row.lt {w : World} {g : Nat} {zs : List Int} (h : Row w g zs) : g < w.heap.size := (Array.getElem?_eq_some_iff.1 h).1
theorem Row.cell {w : World} {g : Nat} {zs : List Int} (h : Row w g zs) {i : Nat} (hi : i < zs.length) : w.cell? ⟨g, i, none⟩ = some (.int .u8 (zs[i]?.getD 0)) := by
  rw [cell_of_row w g i _ _ _ h]
  simp [rowV, hi]
theorem Row.free {w : World} {g : Nat} {zs : List Int} (h : Row w g zs) (i : Nat) : w.frozen? ⟨g, i, none⟩ = false := frozen_of_row w g i _ _ h
theorem Row.set {w : World} {g : Nat} {zs : List Int} (h : Row w g zs) (i : Nat) (x : Int) : Row (w.setCell ⟨g, i, none⟩ (.int .u8 x)) g (zs.set i x) := by
  unfold Row
  rw [heap_setCell_same w g i _ _ _ h]
  simp [rowV, List.map_set]
theorem Row.drew {w : World} {g : Nat} {zs : List Int} (h : Row w g zs) (n : Nat) : Row (w.drewN n) g zs := h
theorem Row.kept {w w' : World} {g : Nat} {zs : List Int} {row : Option Nat} (h : Row w g zs) (hg : w.grownBy w' row) (hne : some g ≠ row) : Row w' g zs := by
  unfold Row
  rw [hg.block g h.lt hne]
  exact h

theorem grown_refl (w : World) (row : Option Nat) : w.grownBy w row := ⟨rfl, rfl, rfl, Nat.le_refl _, fun _ _ _ => rfl⟩
theorem grown_trans {a b c : World} {row : Option Nat} (h : a.grownBy b row) (k : b.grownBy c row) : a.grownBy c row :=
  ⟨k.os.trans h.os, k.tape.trans h.tape, k.output.trans h.output, Nat.le_trans h.size k.size, fun i hi hr => (k.block i (Nat.lt_of_lt_of_le hi h.size) hr).trans (h.block i hi hr)⟩
/-- a write to a row that is the named one, or one that was not there -/
theorem grown_own {a b c : World} {row : Option Nat} {g : Nat} (h : a.grownBy b row) (k : b.grownBy c (some g)) (hg : some g = row ∨ a.heap.size ≤ g) : a.grownBy c row := by
  refine ⟨k.os.trans h.os, k.tape.trans h.tape, k.output.trans h.output, Nat.le_trans h.size k.size, fun i hi hr => (k.block i (Nat.lt_of_lt_of_le hi h.size) ?_).trans (h.block i hi hr)⟩
  rcases hg with hg | hg
  · rw [hg]; exact hr
  · intro e; simp at e; omega
theorem grown_drewN (w : World) (n : Nat) (row : Option Nat) : w.grownBy (w.drewN n) row := ⟨rfl, rfl, rfl, Nat.le_refl _, fun _ _ _ => rfl⟩
theorem grown_setCell (w : World) (g i : Nat) (x : Value) : w.grownBy (w.setCell ⟨g, i, none⟩ x) (some g) :=
  ⟨rfl, rfl, rfl, by simp, fun k _ hk => heap_setCell_other w _ k _ (fun e => hk (by simp [e]))⟩
theorem grown_below {w w' : World} (h : Below w.heap.size w w') (row : Option Nat) : w.grownBy w' row := ⟨h.os, h.tape, h.output, h.size, fun k hk _ => h.block k hk⟩
theorem below_grown {B : Nat} {w w' : World} {row : Option Nat} (h : w.grownBy w' row) (hB : B ≤ w.heap.size) (hr : ∀ g, row = some g → B ≤ g) : Below B w w' :=
  ⟨h.os, h.tape, h.output, h.size, fun k hk => h.block k (by omega) (fun e => by have := hr k e.symm; omega)⟩

/-- A byte slice of the call's own: nil, or the head of a row that is known whole. -/
def Own (w : World) (ao : Option Addr) (n cap : Nat) (zs : List Int) : Prop :=
  (ao = none ∧ n = 0 ∧ cap = 0 ∧ zs = []) ∨ ∃ g, ao = some ⟨g, 0, none⟩ ∧ Row w g zs ∧ n ≤ cap ∧ cap ≤ maxLen ∧ zs.length = cap

theorem info5 : (Try.prog.info? 5).map (fun i => (i.zero, i.size, i.bytes)) = some (some (.int .u8 0), 1, 1) := by kernel_rfl
theorem size5 : (Try.prog.info? 5).map (·.size) = some 1 := by kernel_rfl

theorem oneCells (cs : List Int) : ∀ v ∈ cs.map (Value.int .u8), v.oneCell' = true := by
  intro v hv
  obtain ⟨x, _, rfl⟩ := List.mem_map.1 hv
  rfl
theorem rowV_splice (zs cs : List Int) (off : Nat) : rowV (splice zs off cs) = ((rowV zs).toList.take off ++ cs.map (Value.int .u8) ++ (rowV zs).toList.drop (off + cs.length)).toArray := by
  simp [rowV, splice, List.map_take, List.map_drop]
theorem cells_src {w : World} {ad : Addr} {cs : List Int} (h : ∀ j, j < cs.length → w.cell? (ad.add j) = some (.int .u8 (cs[j]?.getD 0))) :
    ∀ j v, (cs.map (Value.int .u8))[j]? = some v → w.cell? (ad.add j) = some v := by
  intro j v hv
  simp at hv
  obtain ⟨x, hx, rfl⟩ := hv
  have hl : j < cs.length := (List.getElem?_eq_some_iff.1 hx).1
  rw [h j hl, hx]
  rfl

/-- copy(dst, src), dst in a row known whole. -/
theorem run_copy_u8 {w : World} {ty : TypeId} {dp sp : Option Addr} {dLen dCap sLen sCap g off : Nat} {zs cs : List Int} (hg : Row w g zs) (hn : cs.length = Nat.min sLen dLen)
    (hpos : 0 < cs.length → dp = some ⟨g, off, none⟩ ∧ ∃ ad, sp = some ad ∧ ∀ j, j < cs.length → w.cell? (ad.add j) = some (.int .u8 (cs[j]?.getD 0)))
    (hfit : off + cs.length ≤ zs.length) :
    ∃ w', (Builtin.copy_ #[26, 26] ty #[.slice dp dLen dCap, .slice sp sLen sCap]).run Try.prog w = .ok (goInt cs.length) w' ∧ Row w' g (splice zs off cs) ∧ w.grownBy w' (some g) := by
  by_cases h0 : cs.length = 0
  · obtain rfl : cs = [] := List.eq_nil_of_length_eq_zero h0
    refine ⟨w, run_copy_none (P := Try.prog) w 26 26 ty 5 dp sp dLen dCap sLen sCap Try.underlying26 size5 (by simpa using hn.symm), ?_, grown_refl _ _⟩
    simpa [splice] using hg
  · obtain ⟨rfl, ad, rfl, hsrc⟩ := hpos (by omega)
    have hr := run_copy_row (P := Try.prog) w 26 26 ty 5 g off dLen dCap ad sLen sCap (rowV zs) 5 (cs.map (Value.int .u8)) Try.underlying26 size5 hg (by simpa using hn) (cells_src hsrc) (by simpa [rowV] using hfit) (oneCells cs)
    rw [List.length_map] at hr
    refine ⟨_, hr, ?_, ⟨rfl, rfl, rfl, by simp, fun k _ hk => setRow_other w g k _ (fun e => hk (by simp [e]))⟩⟩
    unfold Row
    rw [rowV_splice]
    exact setRow_heap w g _ _ _ _ hg

theorem wpList_copy_u8 {w : World} {ops : Array Oper} {rest : List Oper} {o : Oper} {a : Act} {Q : Exit → Act → World → Prop} (hgd : o.guard = none) (d s : Operand)
    (ho : o.op = .call { callee := .builtin .copy, args := #[d, s], argTypes := #[26, 26] })
    (dp sp : Option Addr) (dLen dCap sLen sCap : Nat) (hd : a.eval d = .slice dp dLen dCap) (hs : a.eval s = .slice sp sLen sCap)
    (g off : Nat) (zs cs : List Int) (hg : Row w g zs) (hn : cs.length = Nat.min sLen dLen)
    (hpos : 0 < cs.length → dp = some ⟨g, off, none⟩ ∧ ∃ ad, sp = some ad ∧ ∀ j, j < cs.length → w.cell? (ad.add j) = some (.int .u8 (cs[j]?.getD 0)))
    (hfit : off + cs.length ≤ zs.length)
    (h : ∀ w', Row w' g (splice zs off cs) → w.grownBy w' (some g) → wpList Try.prog ops Q rest (a.put o.dst (goInt cs.length)) w') : wpList Try.prog ops Q (o :: rest) a w := by
  obtain ⟨w', hrun, h1, h2⟩ := run_copy_u8 (ty := o.type) (dCap := dCap) (sCap := sCap) hg hn hpos hfit
  refine wpList_plain hgd fun K hK => ?_
  unfold Oper.wp
  simp [execOp, ho, resolve, invoke, builtin, hd, hs, hrun, Result.andThen]
  exact hK _ _ (h w' h1 h2)

theorem step_copy_u8 {w : World} {ops : Array Oper} {o : Oper} {a : Act} {K : Act → World → Prop} {Q : Exit → Act → World → Prop} {E : Prop} (hgd : o.guard = none) (d s : Operand)
    (ho : o.op = .call { callee := .builtin .copy, args := #[d, s], argTypes := #[26, 26] })
    (dp sp : Option Addr) (dLen dCap sLen sCap : Nat) (hd : a.eval d = .slice dp dLen dCap) (hs : a.eval s = .slice sp sLen sCap)
    (g off : Nat) (zs cs : List Int) (hg : Row w g zs) (hn : cs.length = Nat.min sLen dLen)
    (hpos : 0 < cs.length → dp = some ⟨g, off, none⟩ ∧ ∃ ad, sp = some ad ∧ ∀ j, j < cs.length → w.cell? (ad.add j) = some (.int .u8 (cs[j]?.getD 0)))
    (hfit : off + cs.length ≤ zs.length)
    (h : ∀ w', Row w' g (splice zs off cs) → w.grownBy w' (some g) → K (a.put o.dst (goInt cs.length)) w') : if Region.wanted o (yielded ops a.tmps) = true then Oper.wp Try.prog o a w K Q else E := by
  have hw : Region.wanted o (yielded ops a.tmps) = true := by simp [Region.wanted, hgd]
  rw [if_pos hw]
  obtain ⟨w', hrun, h1, h2⟩ := run_copy_u8 (ty := o.type) (dCap := dCap) (sCap := sCap) hg hn hpos hfit
  unfold Oper.wp
  simp [execOp, ho, resolve, invoke, builtin, hd, hs, hrun, Result.andThen]
  exact h w' h1 h2

theorem zero_cells (n : Nat) : Builtin.zeroCells (Value.int .u8 0).cells n = rowV (List.replicate n 0) := by
  apply Array.ext'
  apply List.ext_getElem?
  intro j
  by_cases hj : j < n
  · simp [rowV, Builtin.zeroCells, Value.cells, hj, Nat.mod_one]
  · simp [rowV, Builtin.zeroCells, Value.cells, hj]
theorem rowV_append (a b : List Int) : rowV a ++ rowV b = rowV (a ++ b) := by simp [rowV]

/-- append(dst, make([]byte, k)...) where it must grow. -/
theorem run_append_more {w : World} {ty : TypeId} {ao : Option Addr} {n cap k : Nat} {zs : List Int} (hown : Own w ao n cap zs) (h0 : 0 < k) (hg : cap < n + k) (hbig : n + k ≤ 4294967296) :
    ∃ g' cap' zs' w', (Builtin.append_ #[26, 3] ty #[.slice ao n cap, .int .i64 k]).run Try.prog w = .ok (.slice (some ⟨g', 0, none⟩) (n + k) cap') w' ∧
      w.heap.size ≤ g' ∧ Row w' g' zs' ∧ n + k ≤ cap' ∧ cap' ≤ maxLen ∧ zs'.length = cap' ∧ zs'.take n = zs.take n ∧ Below w.heap.size w w' := by
  obtain ⟨i, hi, hz, hs, hb⟩ := info_parts info5
  have hw : IntKind.i64.wrap (k : Int) = k := by rw [IntKind.wrap_i64]; omega
  have hneg : ¬ ((k : Int) < 0) := by omega
  have h48i : ¬ (281474976710656 < (k : Int) * ((1 : Nat) : Int)) := by omega
  have hn : ¬ (n + k ≤ cap) := by omega
  have h63' : ¬ (9223372036854775807 < ((n : Int) + (k : Int))) := by omega
  have hfit := growslice_fits (need := n + k) (old := cap) (bytes := 1) hg (by omega)
  have h48' : ¬ (281474976710656 < Builtin.nextslicecap (n + k) cap * 1) := by omega
  have hk : k ≠ 0 := by omega
  have hge := grownCap_ge w (n + k) cap 5
  have hcm : grownCap w (n + k) cap 5 ≤ maxLen := grownCap_le_maxLen w (n + k) cap 5 (by unfold maxLen; omega)
  rcases hown with ⟨rfl, rfl, rfl, rfl⟩ | ⟨g, rfl, hrow, hnc, hcm', hl⟩
  · have hr : (Builtin.append_ #[26, 3] ty #[.slice none 0 0, .int .i64 k]).run Try.prog w = .ok (.slice (some ⟨w.heap.size, 0, none⟩) (0 + k) (grownCap w (0 + k) 0 5))
        (w.drew.alloc (.cells (rowV (List.replicate (grownCap w (0 + k) 0 5) 0)) 5)) := by
      have e := Lib.run_append_nil_zeros (P := Try.prog) w 26 3 ty 5 i (.int .u8 0) .i64 .i64 Try.underlying26 Try.underlying3 hi hz k h0 (by omega) (by omega) (by rw [hb]; omega)
      rw [e]
      simp only [Nat.zero_add] at hge ⊢
      rw [zero_cells, zero_cells, rowV_append, List.replicate_append_replicate, show k + (grownCap w k 0 5 - k) = grownCap w k 0 5 by omega]
    exact ⟨w.heap.size, _, _, _, hr, Nat.le_refl _, heap_alloc_new w.drew _, hge, hcm, by simp, by simp, ((Below.refl _ _).drew).alloc (Nat.le_refl _) _⟩
  · have hcell : ∀ j, j < (zs.take n).length → w.drew.cell? ((⟨g, 0, none⟩ : Addr).add j) = some (.int .u8 ((zs.take n)[j]?.getD 0)) := by
      intro j hj
      simp at hj
      have hadd : (⟨g, 0, none⟩ : Addr).add j = ⟨g, j, none⟩ := by unfold Addr.add; split <;> simp_all
      rw [hadd]
      refine (hrow.cell (i := j) (by omega)).trans ?_
      rw [List.getElem?_take, if_pos (by omega)]
    have hfo := run_firstCells_some (P := Try.prog) w.drew 1 n ⟨g, 0, none⟩ n cap ((zs.take n).map (Value.int .u8)) (by simp; omega) (cells_src hcell)
    have hr : (Builtin.append_ #[26, 3] ty #[.slice (some ⟨g, 0, none⟩) n cap, .int .i64 k]).run Try.prog w = .ok (.slice (some ⟨w.heap.size, 0, none⟩) (n + k) (grownCap w (n + k) cap 5))
        (w.drew.alloc (.cells (rowV (zs.take n ++ List.replicate (grownCap w (n + k) cap 5 - n) 0)) 5)) := by
      simp [Builtin.append_, run_underlying Try.underlying26, run_underlying Try.underlying3, sizeOf, typeInfo, zeroValue, hi, hz, hs, hb, asInt, asIntOf, hw, hn, hk, hneg, h63', Question.forced, newRow, hfo]
      rw [if_neg (by omega), if_neg (by omega)]
      have hc : rowV (zs.take n ++ List.replicate (grownCap w (n + k) cap 5 - n) 0) = (List.map (Value.int .u8) (zs.take n)).toArray ++ (Builtin.zeroCells (Value.int .u8 0).cells k ++ Builtin.zeroCells (Value.int .u8 0).cells (grownCap w (n + k) cap 5 - (n + k))) := by
        rw [zero_cells, zero_cells, rowV_append, List.replicate_append_replicate, show k + (grownCap w (n + k) cap 5 - (n + k)) = grownCap w (n + k) cap 5 - n by omega, ← rowV_append]
        rfl
      simp only [← List.map_take, hc]
      rfl
    refine ⟨w.heap.size, _, _, _, hr, Nat.le_refl _, heap_alloc_new w.drew _, hge, hcm, by simp; omega, ?_, ((Below.refl _ _).drew).alloc (Nat.le_refl _) _⟩
    rw [List.take_left' (by simp; omega)]
end Go.Proofs.Qxb6602096a
