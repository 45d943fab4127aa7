/-
  THE WALKS of 'grow' (18) and 'b1same' (13).
-/
import Derived.Test.Qxb6602096aPpKit
namespace Go.Proofs.Qxb6602096a
open Go.RowKit

theorem below_drewN {B : Nat} {a w : World} (h : Below B a w) (n : Nat) : Below B a (w.drewN n) := ⟨h.os, h.tape, h.output, h.size, h.block⟩

/-- What 'grow' leaves. -/
def Grew (w : World) (ao : Option Addr) (n k : Nat) (zs : List Int) (e : Ending) (w' : World) : Prop :=
  ∃ g' n' cap' zs' v2, e = .returned (.tuple #[.slice (some ⟨g', 0, none⟩) n' cap', v2]) ∧ n' = n + k ∧
      (ao = some ⟨g', 0, none⟩ ∨ w.heap.size ≤ g') ∧ Row w' g' zs' ∧ n + k ≤ cap' ∧ cap' ≤ maxLen ∧ zs'.length = cap' ∧ zs'.take n = zs.take n ∧ Below w.heap.size w w'

set_option maxHeartbeats 400000 in
theorem grow_more (ao : Option Addr) (n cap k : Nat) (zs : List Int) (w : World) (hown : Own w ao n cap zs) (h0 : 0 < k) (hg : cap < n + k) (hbig : n + k ≤ 4294967296) (hnc : n ≤ cap) :
    Calls Try.prog 18 #[.slice ao n cap, .int .i64 k] w (Grew w ao n k zs) := by
  obtain ⟨g', cap', zs', w1, hr, h1, h2, h3, h4, h5, h6, h7⟩ := run_append_more (ty := 26) hown h0 hg hbig
  have h4' := h4
  unfold maxLen at h4'
  have R : Hid ((Builtin.append_ #[26, 3] 26 #[.slice ao n cap, .int .i64 k]).run Try.prog w = .ok (.slice (some ⟨g', 0, none⟩) (n + k) cap') w1) := hr
  have H6 : Hid (zs'.take n = zs.take n) := h6
  have H5 : Hid (zs'.length = cap') := h5
  clear h6 hr hown h5
  go_enter Try.func18, Try.ntmps18
  go_wp2_with (at_builtin; refine Lib.wpList_append_run _ rfl _ _ _ _ rfl _ _ rfl rfl _ _ R.out ?_)
  go_quiet (fail)
  go_wp2
  go_ret2
  exact ⟨g', n + k, cap', zs', _, rfl, rfl, .inr h1, h2.drew nq, h3, h4, H5.out, H6.out, below_drewN h7 nq⟩

set_option maxHeartbeats 400000 in
theorem grow_room (g n cap k : Nat) (zs : List Int) (w : World) (hrow : Row w g zs) (hl : zs.length = cap) (hm : cap ≤ maxLen) (h0 : 0 < k) (hg : n + k ≤ cap) :
    Calls Try.prog 18 #[.slice (some ⟨g, 0, none⟩) n cap, .int .i64 k] w (Grew w (some ⟨g, 0, none⟩) n k zs) := by
  have h4' := hm
  unfold maxLen at h4'
  have H5 : Hid (zs.length = cap) := hl
  clear hl
  go_enter Try.func18, Try.ntmps18
  go_wp2
  go_quiet (fail)
  go_wp2
  go_ret2
  exact ⟨g, n + k, cap, zs, _, rfl, rfl, .inl rfl, hrow.drew nq, hg, hm, H5.out, rfl, below_drewN (Below.refl _ _) nq⟩

/-- 'grow(dst, k)': k bytes more, in dst's own row or in a new one; the first n bytes as they were. -/
theorem grow_any (ao : Option Addr) (n cap k : Nat) (zs : List Int) (w : World) (hown : Own w ao n cap zs) (h0 : 0 < k) (hbig : n + k ≤ 4294967296) :
    Calls Try.prog 18 #[.slice ao n cap, .int .i64 k] w (Grew w ao n k zs) := by
  have hnc : n ≤ cap := by
    rcases hown with ⟨_, rfl, rfl, _⟩ | ⟨g, _, _, h, _⟩
    · exact Nat.le_refl _
    · exact h
  by_cases hg : cap < n + k
  · exact grow_more ao n cap k zs w hown h0 hg hbig hnc
  · rcases hown with ⟨rfl, rfl, rfl, rfl⟩ | ⟨g, rfl, hrow, _, hm, hl⟩
    · omega
    · exact grow_room g n cap k zs w hrow hl hm h0 (by omega)

set_option maxHeartbeats 400000 in
/-- 'b1same' over two rows of the same bytes. -/
theorem same_any (ga gb : Nat) (n ca cb : Nat) (xs : List Int) (hn : n ≤ 9223372036854775807) (w : World)
   (ha : ∀ i, i < n → w.cell? ⟨ga, i, none⟩ = some (.int .u8 (xs[i]?.getD 0))) (hb : ∀ i, i < n → w.cell? ⟨gb, i, none⟩ = some (.int .u8 (xs[i]?.getD 0))) :
    Calls Try.prog 13 #[.slice (some ⟨ga, 0, none⟩) n ca, .slice (some ⟨gb, 0, none⟩) n cb] w fun e w' => e = .returned (.bool true) ∧ Below w.heap.size w w' := by
  go_enter Try.func13, Try.ntmps13
  go_wp2
  go_loopw [5] (fun i wr => ∃ k : Nat, k ≤ n ∧ i = .int .i64 k ∧ Below w.heap.size w wr ∧ ∀ a, wr.cell? a = w.cell? a) (fun i _ => n - (intOf i).toNat)
  case atStart => exact ⟨0, Nat.zero_le _, rfl, Below.refl _ _, fun _ => rfl⟩
  case round =>
    obtain ⟨k, hk, rfl, hbel, hc⟩ := hrel
    by_cases hlt : k < n
    · have h1 : wr.cell? ⟨ga, k, none⟩ = some (.int .u8 (xs[k]?.getD 0)) := by rw [hc]; exact ha k hlt
      have h2 : wr.cell? ⟨gb, k, none⟩ = some (.int .u8 (xs[k]?.getD 0)) := by rw [hc]; exact hb k hlt
      have hi : (k : Int) < (n : Int) := by omega
      have H : Hid (∀ a, wr.cell? a = w.cell? a) := hc
      clear hc ha hb
      go_wp2
      go_quiet (fail)
      go_wp2
      go_roundw
      case rel => exact ⟨k + 1, by omega, by go_num, below_drewN hbel nq, H.out⟩
      case measure => simp [intOf]; omega
    · go_wp2
      go_ret
      exact ⟨rfl, hbel⟩
end Go.Proofs.Qxb6602096a
