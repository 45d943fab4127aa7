/-
  THE WALK of FnLiteralPathAgreesWithPrefixModel (6).
-/
import Derived.Test.Qxb6000358aPathWalks
namespace Go.Proofs.Qxb6000358a
open Go.RowKit PathMath

theorem pathL_get (c m : Int) (s j : Nat) (h : s + 1 + j = 8) : (pathL c m)[j]? = some (en c m (s + 1)) := by
  obtain rfl : s = 7 - j := by omega
  rcases eight j (by omega) with rfl | rfl | rfl | rfl | rfl | rfl | rfl | rfl <;> rfl

set_option maxHeartbeats 1000000 in
theorem agrees (c m : Int) (c0 : 0 ≤ c) (c1 : c < 4294967296) (m0 : 0 ≤ m) (m1 : m < 4294967296) (w : World) :
    Calls Try.prog 6 #[.int .u32 c, .int .u32 m] w fun e w' => e = .returned (.bool true) ∧ Below w.heap.size w w' := by
  have x1 : bits .and .u32 c 255 = c % 256 := and255 c c0 c1
  have x2 : bits .and .u32 m 255 = m % 256 := and255 m m0 m1
  go_enter Try.func6, Try.ntmps6
  go_wp2_with fail
  refine (zzpath_any c m c0 c1 m0 m1 _).mono ?_
  rintro e w1 ⟨rfl, hb1⟩
  go_wp2
  go_loopw [8] (fun v8 wr => ∃ j : Nat, j ≤ 8 ∧ v8 = .int .u32 j ∧ RowH wr w1.heap.size (pathL c m) ∧ Below w.heap.size w wr)
    (fun v8 _ => 8 - (intOf v8).toNat)
  case atStart => exact ⟨0, by omega, rfl, heap_alloc_new w1 (Obj.cells (rowH (pathL c m)) 28), hb1.alloc hb1.size _⟩
  case round =>
    obtain ⟨j, hj, rfl, hrow, hb⟩ := hrel
    by_cases hlt : j < 8
    · obtain ⟨s, hs⟩ : ∃ s, s + 1 + j = 8 := ⟨7 - j, by omega⟩
      have r1 : (8 : Int) - (j : Int) = ((s + 1 : Nat) : Int) := by omega
      have r2 : (7 : Int) - (j : Int) = (s : Int) := by omega
      have d : wr.cell? ⟨w1.heap.size, j, none⟩ = some (.int .u16 (en c m (s + 1))) := by
        rw [hrow.cell (by simp [pathL]; omega), pathL_get c m s j hs]
        rfl
      have b2 := en_bd c m s (by omega)
      have y1 : bits .or .u32 (2 ^ j % 4294967296) (c % 256 / 2 ^ (s + 1)) = sy c (s + 1) := sy_mk c s j hs
      obtain ⟨M, hM⟩ : ∃ M, M = m / 2 ^ s % 2 := ⟨_, rfl⟩
      have y2 : bits .and .u32 (m % 256 / 2 ^ s) 1 = M := by rw [hM]; exact bit_mod m s (by omega)
      have bM : 0 ≤ M ∧ M ≤ 1 := by omega
      have sb := sy_bd c s (by omega)
      have HS : Hid (s + 1 + j = 8) := hs
      have hM' : Hid (M = m / 2 ^ s % 2) := hM
      clear hs hM
      cases hm : (m != 0) with
      | true =>
        cases hq : (c % 256 / 2 ^ (s + 1) == m % 256 / 2 ^ (s + 1)) with
        | true =>
          have y3 : bits .or .u32 (sy c (s + 1)) ((1 + M) * 256) = en c m (s + 1) := by
            rw [hM'.out]
            exact en_yes c m s (by omega) (by unfold PathMath.mt; rw [hm, hq]; rfl)
          go_wp2
          go_roundw
          case rel => exact ⟨j + 1, by omega, by go_num, hrow, hb⟩
          case measure => simp [intOf]; omega
        | false =>
          have y3 : sy c (s + 1) = en c m (s + 1) := en_no c m s (by unfold PathMath.mt; rw [hm, hq]; rfl)
          rw [y3] at y1
          clear y3
          go_wp2
          go_roundw
          case rel => exact ⟨j + 1, by omega, by go_num, hrow, hb⟩
          case measure => simp [intOf]; omega
      | false =>
        have y3 : sy c (s + 1) = en c m (s + 1) := en_no c m s (by unfold PathMath.mt; rw [hm]; rfl)
        rw [y3] at y1
        clear y3
        go_wp2
        go_roundw
        case rel => exact ⟨j + 1, by omega, by go_num, hrow, hb⟩
        case measure => simp [intOf]; omega
    · go_wp2
      go_ret
      exact ⟨rfl, hb⟩
end Go.Proofs.Qxb6000358a
