/-
  THE WALK of the model 'b1place' (11).
-/
import Derived.Test.Qxb6602096aPpCopy
import Derived.Test.Qxb6602096aPpModelMath
namespace Go.Proofs.Qxb6602096a
open Go.RowKit

/-- make([]byte, L), L a term whose number is N. -/
theorem wpList_make_u8' {w : World} {ops : Array Oper} {rest : List Oper} {o : Oper} {a : Act} {Q : Exit → Act → World → Prop}
    (hg : o.guard = none) (l c : Operand) (hop : o.op = Op.makeSlice 26 l c) (kl kc : IntKind) (L C : Int) (N : Nat) (hl : a.eval l = .int kl L) (hc : a.eval c = .int kc C) (hL : L = (N : Int)) (hC : C = (N : Int)) (hN : N ≤ 4294967296)
    (hK : ∀ g w', w.heap.size ≤ g → Row w' g (List.replicate N 0) → Below w.heap.size w w' → wpList Try.prog ops Q rest (a.put o.dst (.slice (some ⟨g, 0, none⟩) N N)) w') :
    wpList Try.prog ops Q (o :: rest) a w := by
  subst hL
  subst hC
  exact wpList_make_u8 hg l c hop kl kc N hl hc hN hK

/-- What 'b1place' leaves. -/
def Modelled (w : World) (X : List Int) (e : Ending) (w' : World) : Prop :=
  ∃ g n, e = .returned (.slice (some ⟨g, 0, none⟩) n n) ∧ n = X.length ∧ w.heap.size ≤ g ∧ Row w' g X ∧ Below w.heap.size w w'

set_option maxHeartbeats 2000000 in
theorem model_row (g0 n cap start places m k N : Nat) (zs X : List Int) (w : World) (hrow : Row w g0 zs) (HL : Hid (zs.length = cap)) (hnc : n ≤ cap) (_hcm : cap ≤ 9223372036854775807) (hn : n ≤ 4194304) (hp : 1 ≤ places) (hpb : places ≤ 65536)
    (hm : (n : Int) - (start : Int) = (m : Int)) (HK : KOf m places k) (HN : Hid (N = start + k + 1 + places)) (HX : Hid (X = placeL (zs.take n) start places)) :
    Calls Try.prog 11 #[.slice (some ⟨g0, 0, none⟩) n cap, .int .i64 start, .int .i64 places] w (Modelled w X) := by
  have s1 : start ≤ n := by omega
  have p0 : ((places : Int) == 0) = false := by simp; omega
  have hkb : k ≤ 4194304 := by rcases HK with ⟨_, _⟩ | ⟨_, _⟩ <;> omega
  have N1 : N ≤ 16777216 := by have := HN.out; omega
  have hd : (zs.take n).length = start + m := by have := HL.out; simp; omega
  have DL : Hid ((zs.take n).length = start + m) := hd
  have XL : Hid (X.length = N) := by show _ = _; rw [HX.out, HN.out]; exact placeL_length _ start places k m hd hp HK
  have c1 : Hid ((zs.take start).length = Nat.min start N) := by show _ = min _ _; have := HL.out; have := HN.out; simp; omega
  have c2 : Hid (0 + (zs.take start).length ≤ (List.replicate N (0 : Int)).length) := by show _ ≤ _; rw [c1.out]; show 0 + min _ _ ≤ _; simp; omega
  have c3 : Hid (∀ j, j < (zs.take start).length → w.cell? ((⟨g0, 0, none⟩ : Addr).add j) = some (.int .u8 ((zs.take start)[j]?.getD 0))) := by
    intro j hj
    simp at hj
    rw [addr_add, Nat.zero_add, hrow.cell (by omega), List.getElem?_take, if_pos (by omega)]
  have lt0 := hrow.lt
  clear hd
  have KK : Hid (KOf m places k) := HK
  have TT : Hid (zs.take start = (zs.take n).take start) := by show _ = _; rw [List.take_take, Nat.min_eq_left s1]
  obtain ⟨q, hq⟩ : ∃ q, q = start + k := ⟨_, rfl⟩
  have nI : (q : Int) + 1 + (places : Int) = (N : Int) := by have := HN.out; omega
  have qN : (q : Int) < (N : Int) := by omega
  have HQ : Hid (q = start + k) := hq
  rcases HK with ⟨ka, kb⟩ | ⟨ka, kb⟩
  · have kI : (m : Int) - (places : Int) = (k : Int) := by omega
    have k1 : ¬ ((k : Int) < 1) := by omega
    have qI : (start : Int) + (k : Int) = (q : Int) := by omega
    have kpos : 1 ≤ k := by omega
    clear kb ka hq
    go_enter Try.func11, Try.ntmps11
    go_wp2_with (first
      | (at_make; refine wpList_make_u8' rfl _ _ rfl .i64 .i64 _ _ N rfl rfl rfl rfl (by omega) ?_; intro g w1 hg1 hr1 hb1)
      | (with_reducible (show wpList _ _ _ ({ dst := some 48, op := _, type := _, pos := _, after := _, guard := _ } :: _) _ _); go_must (refine wpList_copy_u8 rfl (.tmp 44) (.tmp 47) rfl (some ⟨g, 0, none⟩) (some ⟨g0, 0, none⟩) N N start cap rfl rfl g 0 _ (zs.take start) hr1 c1.out (fun _ => ⟨rfl, _, rfl, fun j hj => by rw [hb1.cell (by simpa [addr_add] using lt0)]; exact c3.out j hj⟩) c2.out ?_); intro w2 hr2 hg2))
    have b2 : Below w.heap.size w w2 := own_below hb1 hg2 hg1
    have hz2 := b2.size
    have src : Hid (∀ wx, w2.grownBy wx (some g) → ∀ s, start + s < n → wx.cell? ⟨g0, start + s, none⟩ = some (.int .u8 (zs[start + s]?.getD 0))) := by
      intro wx hx s hs
      rw [World.cell?_of_block (w := w2) (hx.block g0 (by omega) (by simp; omega)), World.cell?_of_block (w := w) (b2.block g0 lt0)]
      exact hrow.cell (by have := HL.out; omega)
    have val : Hid (∀ s, start + s < n → (zs.take n)[start + s]? = some (zs[start + s]?.getD 0)) := by
      intro s hs
      have h' : start + s < zs.length := by have := HL.out; omega
      rw [List.getElem?_take, if_pos hs]
      simp [h']
    have G2 : Hid (w1.grownBy w2 (some g)) := hg2
    clear hg2 c3 hr1 hrow
    go_loopw [12] (fun i wr => ∃ j : Nat, j ≤ places ∧ i = .int .i64 j ∧ ∃ Z, Row wr g Z ∧ Ag Z X start (N - j) ∧ w2.grownBy wr (some g)) (fun i _ => places - (intOf i).toNat)
    case atStart => exact ⟨0, Nat.zero_le _, rfl, _, hr2, by rw [HX.out, TT.out]; exact Ag.start (zs.take n) start places k m N DL.out hp KK.out HN.out, grown_refl _ _⟩
    case round =>
      obtain ⟨j, hj, rfl, Z, hrz, hag, hgz⟩ := hrel
      have lenZ : Hid (Z.length = N) := by show _ = _; rw [hag.len]; exact XL.out
      by_cases hlt : j < places
      · obtain ⟨t, ht⟩ : ∃ t, t + 1 + j = N := ⟨N - 1 - j, by have := HN.out; omega⟩
        have tI : (N : Int) - 1 - (j : Int) = (t : Int) := by omega
        have tN : (t : Int) < (N : Int) := by omega
        have d1 := hrz.cell (i := t) (by rw [lenZ.out]; omega)
        have d2 := hrz.free t
        have HT : Hid (t + 1 + j = N) := ht
        clear ht
        by_cases hjm : j < m
        · obtain ⟨s, hs⟩ : ∃ s, s + 1 + j = m := ⟨m - 1 - j, by omega⟩
          have sI : (m : Int) - 1 - (j : Int) = (s : Int) := by omega
          have sN : (start : Int) + (s : Int) < (n : Int) := by omega
          have d3 := src.out wr hgz s (by omega)
          have hxt : X[t]? = some (zs[start + s]?.getD 0) := by
            rw [HX.out, get_frac (zs.take n) start places k m j s t DL.out hp KK.out hlt (by have := HT.out; have := HN.out; omega) hs]
            exact val.out s (by omega)
          have A := hag.step (t := t) (by have := HT.out; omega) (by rw [XL.out]; omega) hxt (by have := HT.out; have := HN.out; omega)
          have R := hrz.set t (zs[start + s]?.getD 0)
          have G := grown_trans hgz (grown_setCell wr g t (.int .u8 (zs[start + s]?.getD 0)))
          have HS : Hid (s + 1 + j = m) := hs
          clear hs hxt
          go_wp2
          all_goals
            go_roundw
            case rel => exact ⟨j + 1, by omega, by go_num, _, R, by rw [show N - (j + 1) = t by have := HT.out; omega]; exact A, G⟩
            case measure => simp [intOf]; omega
        · have sI : (m : Int) - 1 - (j : Int) < 0 := by omega
          have hxt : X[t]? = some 48 := by
            rw [HX.out, get_frac0 (zs.take n) start places k m j t DL.out hp KK.out hlt (by have := HT.out; have := HN.out; omega) (by omega)]
          have A := hag.step (t := t) (by have := HT.out; omega) (by rw [XL.out]; omega) hxt (by have := HT.out; have := HN.out; omega)
          have R := hrz.set t 48
          have G := grown_trans hgz (grown_setCell wr g t (.int .u8 48))
          clear hxt
          go_wp2
          all_goals
            go_roundw
            case rel => exact ⟨j + 1, by omega, by go_num, _, R, by rw [show N - (j + 1) = t by have := HT.out; omega]; exact A, G⟩
            case measure => simp [intOf]; omega
      · have d1 := hrz.cell (i := q) (by rw [lenZ.out]; omega)
        have d2 := hrz.free q
        have A := hag.step (t := q) (by have := HN.out; have := HQ.out; omega) (by rw [XL.out]; omega) (by rw [HX.out, HQ.out]; exact get_point (zs.take n) start places k m DL.out hp KK.out) (by have := HQ.out; omega)
        have R := hrz.set q 46
        have G := grown_trans hgz (grown_setCell wr g q (.int .u8 46))
        have hjp : ¬ (j : Int) < (places : Int) := by omega
        clear hag hrz hgz
        go_wp2
        go_loopw [15] (fun i wy => ∃ j : Nat, j ≤ k ∧ i = .int .i64 j ∧ ∃ Z, Row wy g Z ∧ Ag Z X start (q - j) ∧ w2.grownBy wy (some g)) (fun i _ => k - (intOf i).toNat)
        case atStart => exact ⟨0, Nat.zero_le _, rfl, _, R, A, G⟩
        case round =>
          obtain ⟨i, hi, rfl, Z, hrz, hag, hgz⟩ := hrel
          have lenZ : Hid (Z.length = N) := by show _ = _; rw [hag.len]; exact XL.out
          by_cases hlt : i < k
          · obtain ⟨t, ht⟩ : ∃ t, t + 1 + i = q := ⟨q - 1 - i, by have := HQ.out; omega⟩
            have tI : (q : Int) - 1 - (i : Int) = (t : Int) := by omega
            have tN : (t : Int) < (N : Int) := by omega
            have d1 := hrz.cell (i := t) (by rw [lenZ.out]; omega)
            have d2 := hrz.free t
            have HT : Hid (t + 1 + i = q) := ht
            clear ht
            by_cases hjm : places + i < m
            · obtain ⟨s, hs⟩ : ∃ s, s + 1 + places + i = m := ⟨m - 1 - places - i, by omega⟩
              have sI : (m : Int) - 1 - (places : Int) - (i : Int) = (s : Int) := by omega
              have sN : (start : Int) + (s : Int) < (n : Int) := by omega
              have d3 := src.out wr hgz s (by omega)
              have hxt : X[t]? = some (zs[start + s]?.getD 0) := by
                rw [HX.out, get_whole (zs.take n) start places k m i s t DL.out hp KK.out hlt (by have := HT.out; have := HQ.out; omega) hs]
                exact val.out s (by omega)
              have A := hag.step (t := t) (by have := HT.out; omega) (by rw [XL.out]; omega) hxt (by have := HT.out; have := HQ.out; omega)
              have R := hrz.set t (zs[start + s]?.getD 0)
              have G := grown_trans hgz (grown_setCell wr g t (.int .u8 (zs[start + s]?.getD 0)))
              have HS : Hid (s + 1 + places + i = m) := hs
              clear hs hxt
              go_wp2
              all_goals
                go_roundw
                case rel => exact ⟨i + 1, by omega, by go_num, _, R, by rw [show q - (i + 1) = t by have := HT.out; omega]; exact A, G⟩
                case measure => simp [intOf]; omega
            · have sI : (m : Int) - 1 - (places : Int) - (i : Int) < 0 := by omega
              have hxt : X[t]? = some 48 := by
                rw [HX.out, get_whole0 (zs.take n) start places k m i t DL.out hp KK.out hlt (by have := HT.out; have := HQ.out; omega) (by omega)]
              have A := hag.step (t := t) (by have := HT.out; omega) (by rw [XL.out]; omega) hxt (by have := HT.out; have := HQ.out; omega)
              have R := hrz.set t 48
              have G := grown_trans hgz (grown_setCell wr g t (.int .u8 48))
              clear hxt
              go_wp2
              all_goals
                go_roundw
                case rel => exact ⟨i + 1, by omega, by go_num, _, R, by rw [show q - (i + 1) = t by have := HT.out; omega]; exact A, G⟩
                case measure => simp [intOf]; omega
          · have hZ : Z = X := hag.done (by have := HQ.out; omega)
            rw [hZ] at hrz
            clear hZ hag
            go_wp2
            go_ret
            exact ⟨g, N, rfl, XL.out.symm, hg1, hrz, own_below b2 hgz hg1⟩
  · subst kb
    have kI : (m : Int) - (places : Int) < 1 := by omega
    have qI : (start : Int) + 1 = (q : Int) := by omega
    clear ka hq
    go_enter Try.func11, Try.ntmps11
    go_wp2_with (first
      | (at_make; refine wpList_make_u8' rfl _ _ rfl .i64 .i64 _ _ N rfl rfl rfl rfl (by omega) ?_; intro g w1 hg1 hr1 hb1)
      | (with_reducible (show wpList _ _ _ ({ dst := some 48, op := _, type := _, pos := _, after := _, guard := _ } :: _) _ _); go_must (refine wpList_copy_u8 rfl (.tmp 44) (.tmp 47) rfl (some ⟨g, 0, none⟩) (some ⟨g0, 0, none⟩) N N start cap rfl rfl g 0 _ (zs.take start) hr1 c1.out (fun _ => ⟨rfl, _, rfl, fun j hj => by rw [hb1.cell (by simpa [addr_add] using lt0)]; exact c3.out j hj⟩) c2.out ?_); intro w2 hr2 hg2))
    have b2 : Below w.heap.size w w2 := own_below hb1 hg2 hg1
    have hz2 := b2.size
    have src : Hid (∀ wx, w2.grownBy wx (some g) → ∀ s, start + s < n → wx.cell? ⟨g0, start + s, none⟩ = some (.int .u8 (zs[start + s]?.getD 0))) := by
      intro wx hx s hs
      rw [World.cell?_of_block (w := w2) (hx.block g0 (by omega) (by simp; omega)), World.cell?_of_block (w := w) (b2.block g0 lt0)]
      exact hrow.cell (by have := HL.out; omega)
    have val : Hid (∀ s, start + s < n → (zs.take n)[start + s]? = some (zs[start + s]?.getD 0)) := by
      intro s hs
      have h' : start + s < zs.length := by have := HL.out; omega
      rw [List.getElem?_take, if_pos hs]
      simp [h']
    have G2 : Hid (w1.grownBy w2 (some g)) := hg2
    clear hg2 c3 hr1 hrow
    go_loopw [12] (fun i wr => ∃ j : Nat, j ≤ places ∧ i = .int .i64 j ∧ ∃ Z, Row wr g Z ∧ Ag Z X start (N - j) ∧ w2.grownBy wr (some g)) (fun i _ => places - (intOf i).toNat)
    case atStart => exact ⟨0, Nat.zero_le _, rfl, _, hr2, by rw [HX.out, TT.out]; exact Ag.start (zs.take n) start places 1 m N DL.out hp KK.out HN.out, grown_refl _ _⟩
    case round =>
      obtain ⟨j, hj, rfl, Z, hrz, hag, hgz⟩ := hrel
      have lenZ : Hid (Z.length = N) := by show _ = _; rw [hag.len]; exact XL.out
      by_cases hlt : j < places
      · obtain ⟨t, ht⟩ : ∃ t, t + 1 + j = N := ⟨N - 1 - j, by have := HN.out; omega⟩
        have tI : (N : Int) - 1 - (j : Int) = (t : Int) := by omega
        have tN : (t : Int) < (N : Int) := by omega
        have d1 := hrz.cell (i := t) (by rw [lenZ.out]; omega)
        have d2 := hrz.free t
        have HT : Hid (t + 1 + j = N) := ht
        clear ht
        by_cases hjm : j < m
        · obtain ⟨s, hs⟩ : ∃ s, s + 1 + j = m := ⟨m - 1 - j, by omega⟩
          have sI : (m : Int) - 1 - (j : Int) = (s : Int) := by omega
          have sN : (start : Int) + (s : Int) < (n : Int) := by omega
          have d3 := src.out wr hgz s (by omega)
          have hxt : X[t]? = some (zs[start + s]?.getD 0) := by
            rw [HX.out, get_frac (zs.take n) start places 1 m j s t DL.out hp KK.out hlt (by have := HT.out; have := HN.out; omega) hs]
            exact val.out s (by omega)
          have A := hag.step (t := t) (by have := HT.out; omega) (by rw [XL.out]; omega) hxt (by have := HT.out; have := HN.out; omega)
          have R := hrz.set t (zs[start + s]?.getD 0)
          have G := grown_trans hgz (grown_setCell wr g t (.int .u8 (zs[start + s]?.getD 0)))
          have HS : Hid (s + 1 + j = m) := hs
          clear hs hxt
          go_wp2
          all_goals
            go_roundw
            case rel => exact ⟨j + 1, by omega, by go_num, _, R, by rw [show N - (j + 1) = t by have := HT.out; omega]; exact A, G⟩
            case measure => simp [intOf]; omega
        · have sI : (m : Int) - 1 - (j : Int) < 0 := by omega
          have hxt : X[t]? = some 48 := by
            rw [HX.out, get_frac0 (zs.take n) start places 1 m j t DL.out hp KK.out hlt (by have := HT.out; have := HN.out; omega) (by omega)]
          have A := hag.step (t := t) (by have := HT.out; omega) (by rw [XL.out]; omega) hxt (by have := HT.out; have := HN.out; omega)
          have R := hrz.set t 48
          have G := grown_trans hgz (grown_setCell wr g t (.int .u8 48))
          clear hxt
          go_wp2
          all_goals
            go_roundw
            case rel => exact ⟨j + 1, by omega, by go_num, _, R, by rw [show N - (j + 1) = t by have := HT.out; omega]; exact A, G⟩
            case measure => simp [intOf]; omega
      · have d1 := hrz.cell (i := q) (by rw [lenZ.out]; omega)
        have d2 := hrz.free q
        have A := hag.step (t := q) (by have := HN.out; have := HQ.out; omega) (by rw [XL.out]; omega) (by rw [HX.out, HQ.out]; exact get_point (zs.take n) start places 1 m DL.out hp KK.out) (by have := HQ.out; omega)
        have R := hrz.set q 46
        have G := grown_trans hgz (grown_setCell wr g q (.int .u8 46))
        have hjp : ¬ (j : Int) < (places : Int) := by omega
        clear hag hrz hgz
        go_wp2
        go_loopw [15] (fun i wy => ∃ j : Nat, j ≤ 1 ∧ i = .int .i64 j ∧ ∃ Z, Row wy g Z ∧ Ag Z X start (q - j) ∧ w2.grownBy wy (some g)) (fun i _ => 1 - (intOf i).toNat)
        case atStart => exact ⟨0, Nat.zero_le _, rfl, _, R, A, G⟩
        case round =>
          obtain ⟨i, hi, rfl, Z, hrz, hag, hgz⟩ := hrel
          have lenZ : Hid (Z.length = N) := by show _ = _; rw [hag.len]; exact XL.out
          by_cases hlt : i < 1
          · obtain ⟨t, ht⟩ : ∃ t, t + 1 + i = q := ⟨q - 1 - i, by have := HQ.out; omega⟩
            have tI : (q : Int) - 1 - (i : Int) = (t : Int) := by omega
            have tN : (t : Int) < (N : Int) := by omega
            have d1 := hrz.cell (i := t) (by rw [lenZ.out]; omega)
            have d2 := hrz.free t
            have HT : Hid (t + 1 + i = q) := ht
            clear ht
            by_cases hjm : places + i < m
            · obtain ⟨s, hs⟩ : ∃ s, s + 1 + places + i = m := ⟨m - 1 - places - i, by omega⟩
              have sI : (m : Int) - 1 - (places : Int) - (i : Int) = (s : Int) := by omega
              have sN : (start : Int) + (s : Int) < (n : Int) := by omega
              have d3 := src.out wr hgz s (by omega)
              have hxt : X[t]? = some (zs[start + s]?.getD 0) := by
                rw [HX.out, get_whole (zs.take n) start places 1 m i s t DL.out hp KK.out hlt (by have := HT.out; have := HQ.out; omega) hs]
                exact val.out s (by omega)
              have A := hag.step (t := t) (by have := HT.out; omega) (by rw [XL.out]; omega) hxt (by have := HT.out; have := HQ.out; omega)
              have R := hrz.set t (zs[start + s]?.getD 0)
              have G := grown_trans hgz (grown_setCell wr g t (.int .u8 (zs[start + s]?.getD 0)))
              have HS : Hid (s + 1 + places + i = m) := hs
              clear hs hxt
              go_wp2
              all_goals
                go_roundw
                case rel => exact ⟨i + 1, by omega, by go_num, _, R, by rw [show q - (i + 1) = t by have := HT.out; omega]; exact A, G⟩
                case measure => simp [intOf]; omega
            · have sI : (m : Int) - 1 - (places : Int) - (i : Int) < 0 := by omega
              have hxt : X[t]? = some 48 := by
                rw [HX.out, get_whole0 (zs.take n) start places 1 m i t DL.out hp KK.out hlt (by have := HT.out; have := HQ.out; omega) (by omega)]
              have A := hag.step (t := t) (by have := HT.out; omega) (by rw [XL.out]; omega) hxt (by have := HT.out; have := HQ.out; omega)
              have R := hrz.set t 48
              have G := grown_trans hgz (grown_setCell wr g t (.int .u8 48))
              clear hxt
              go_wp2
              all_goals
                go_roundw
                case rel => exact ⟨i + 1, by omega, by go_num, _, R, by rw [show q - (i + 1) = t by have := HT.out; omega]; exact A, G⟩
                case measure => simp [intOf]; omega
          · have hZ : Z = X := hag.done (by have := HQ.out; omega)
            rw [hZ] at hrz
            clear hZ hag
            go_wp2
            go_ret
            exact ⟨g, N, rfl, XL.out.symm, hg1, hrz, own_below b2 hgz hg1⟩

/-- The same where dst is nil. -/
theorem model_nil (places N : Nat) (X : List Int) (w : World) (hp : 1 ≤ places) (hpb : places ≤ 65536) (nI : (2 : Int) + (places : Int) = (N : Int)) (HX : Hid (X = placeL [] 0 places)) :
    Calls Try.prog 11 #[.slice none 0 0, .int .i64 0, .int .i64 places] w (Modelled w X) := by
  have p0 : ((places : Int) == 0) = false := by simp; omega
  have p1 : -(places : Int) < 1 := by omega
  have N1 : N ≤ 16777216 := by omega
  have KK : KOf 0 places 1 := .inr ⟨by omega, rfl⟩
  have XL : Hid (X.length = N) := by show _ = _; rw [HX.out, placeL_length [] 0 places 1 0 rfl hp KK]; omega
  have c1 : Hid (([] : List Int).length = Nat.min 0 N) := by show 0 = min 0 N; omega
  go_enter Try.func11, Try.ntmps11
  go_wp2_with (first
    | (at_make; refine wpList_make_u8' rfl _ _ rfl .i64 .i64 _ _ N rfl rfl rfl rfl (by omega) ?_; intro g w1 hg1 hr1 hb1)
    | (with_reducible (show wpList _ _ _ ({ dst := some 48, op := _, type := _, pos := _, after := _, guard := _ } :: _) _ _); go_must (refine wpList_copy_u8 rfl (.tmp 44) (.tmp 47) rfl (some ⟨g, 0, none⟩) none N N 0 0 rfl rfl g 0 _ [] hr1 c1.out (fun h => by simp at h) (by simp) ?_); intro w2 hr2 hg2))
  have b2 : Below w.heap.size w w2 := own_below hb1 hg2 hg1
  clear hr1 hg2 hb1
  go_loopw [12] (fun i wr => ∃ j : Nat, j ≤ places ∧ i = .int .i64 j ∧ ∃ Z, Row wr g Z ∧ Ag Z X 0 (N - j) ∧ w2.grownBy wr (some g)) (fun i _ => places - (intOf i).toNat)
  case atStart => exact ⟨0, Nat.zero_le _, rfl, _, hr2, by rw [HX.out]; exact Ag.start [] 0 places 1 0 N rfl hp KK (by omega), grown_refl _ _⟩
  case round =>
    obtain ⟨j, hj, rfl, Z, hrz, hag, hgz⟩ := hrel
    have lenZ : Hid (Z.length = N) := by show _ = _; rw [hag.len]; exact XL.out
    by_cases hlt : j < places
    · obtain ⟨t, ht⟩ : ∃ t, t + 1 + j = N := ⟨N - 1 - j, by omega⟩
      have tI : (N : Int) - 1 - (j : Int) = (t : Int) := by omega
      have tN : (t : Int) < (N : Int) := by omega
      have d1 := hrz.cell (i := t) (by rw [lenZ.out]; omega)
      have d2 := hrz.free t
      have HT : Hid (t + 1 + j = N) := ht
      clear ht
      have sI : (-1 : Int) - (j : Int) < 0 := by omega
      have hxt : X[t]? = some 48 := by
        rw [HX.out, get_frac0 [] 0 places 1 0 j t rfl hp KK hlt (by have := HT.out; omega) (by omega)]
      have A := hag.step (t := t) (by have := HT.out; omega) (by rw [XL.out]; omega) hxt (by omega)
      have R := hrz.set t 48
      have G := grown_trans hgz (grown_setCell wr g t (.int .u8 48))
      clear hxt
      go_wp2
      go_roundw
      case rel => exact ⟨j + 1, by omega, by go_num, _, R, by rw [show N - (j + 1) = t by have := HT.out; omega]; exact A, G⟩
      case measure => simp [intOf]; omega
    · have d1 := hrz.cell (i := 1) (by rw [lenZ.out]; omega)
      have d2 := hrz.free 1
      have d0 := hrz.cell (i := 0) (by rw [lenZ.out]; omega)
      have d3 := hrz.free 0
      have A := hag.step (t := 1) (by omega) (by rw [XL.out]; omega) (by rw [HX.out]; exact get_point [] 0 places 1 0 rfl hp KK) (by omega)
      have A2 := A.step (t := 0) (by omega) (by rw [XL.out]; omega) (by rw [HX.out]; exact get_whole0 [] 0 places 1 0 0 0 rfl hp KK (by omega) (by omega) (by omega)) (by omega)
      have R := (hrz.set 1 46).set 0 48
      rw [A2.done (by omega)] at R
      have G := grown_trans (grown_trans hgz (grown_setCell wr g 1 (.int .u8 46))) (grown_setCell _ g 0 (.int .u8 48))
      have N2 : (1 : Int) < (N : Int) := by omega
      have N3 : (0 : Int) < (N : Int) := by omega
      have hjp : ¬ (j : Int) < (places : Int) := by omega
      have sI : (-1 : Int) - (places : Int) < 0 := by omega
      clear hag hrz hgz A A2
      go_wp2
      refine wp_loop_rounds 2 ?_
      rw [rounds_succ]
      go_wp2
      rw [rounds_succ]
      go_wp2
      go_ret
      exact ⟨g, N, rfl, XL.out.symm, hg1, R, own_below b2 G hg1⟩

theorem splice_all (n : Nat) (d : List Int) (h : d.length = n) : splice (List.replicate n 0) 0 d = d := by
  subst h
  simp [splice]
set_option maxHeartbeats 400000 in
/-- 'b1place' at places 0: a copy. -/
theorem model_zero (ao : Option Addr) (n cap start : Nat) (zs d : List Int) (w : World) (hown : Own w ao n cap zs) (hd : zs.take n = d) (hs : start ≤ n) (hn : n ≤ 4194304) :
    Calls Try.prog 11 #[.slice ao n cap, .int .i64 start, .int .i64 0] w (Modelled w d) := by
  have DL : Hid (d.length = n) := by show _ = _; rw [← hd]; have := own_len hown; simp; omega
  have c1 : Hid (d.length = Nat.min n n) := by rw [DL.out]; exact (Nat.min_self _).symm
  have c2 : Hid (0 + d.length ≤ (List.replicate n (0 : Int)).length) := by show _ ≤ _; rw [DL.out]; simp
  have c3 : Src w ao d := by
    rcases hown with ⟨rfl, rfl, rfl, rfl⟩ | ⟨g, rfl, hrow, h1, _, h3⟩
    · exact ⟨fun _ => (by rw [← hd]; rfl), fun x hx => (by cases hx)⟩
    · refine ⟨fun h => (by cases h), fun x hx j hj => ?_⟩
      cases hx
      rw [DL.out] at hj
      rw [addr_add, Nat.zero_add, hrow.cell (by omega), get_take_eq hd j hj]
  clear hd hown
  go_enter Try.func11, Try.ntmps11
  go_wp2_with (first
    | (at_make; refine wpList_make_u8 rfl _ _ rfl .i64 .i64 n rfl rfl (by omega) ?_; intro g w1 hg1 hr1 hb1)
    | (with_reducible (show wpList _ _ _ ({ dst := some 29, op := _, type := _, pos := _, after := _, guard := _ } :: _) _ _); go_must (refine wpList_copy_u8 rfl (.tmp 27) (.tmp 28) rfl (some ⟨g, 0, none⟩) ao n n n cap rfl rfl g 0 _ d hr1 c1.out (fun h => ⟨rfl, src_pos c3 hb1 h⟩) c2.out ?_); intro w2 hr2 hg2))
  go_ret
  rw [splice_all n d DL.out] at hr2
  exact ⟨g, n, rfl, DL.out.symm, hg1, hr2, own_below hb1 hg2 hg1⟩

/-- 'b1place'. -/
theorem model_any (ao : Option Addr) (n cap start places : Nat) (zs : List Int) (w : World) (hown : Own w ao n cap zs) (hs : start ≤ n) (hn : n ≤ 4194304) (hpb : places ≤ 65536) :
    Calls Try.prog 11 #[.slice ao n cap, .int .i64 start, .int .i64 places] w (Modelled w (placeL (zs.take n) start places)) := by
  by_cases h0 : places = 0
  · subst h0
    exact model_zero ao n cap start zs _ w hown rfl hs hn
  · rcases hown with ⟨rfl, rfl, rfl, rfl⟩ | ⟨g, rfl, hrow, h1, h2, h3⟩
    · obtain rfl : start = 0 := by omega
      exact model_nil places (2 + places) _ w (by omega) hpb (by omega) rfl
    · by_cases hk : places + 1 ≤ n - start
      · exact model_row g n cap start places (n - start) (n - start - places) (start + (n - start - places) + 1 + places) zs _ w hrow h3 h1 (by unfold maxLen at h2; omega) hn (by omega) hpb (by omega) (.inl ⟨hk, by omega⟩) rfl rfl
      · exact model_row g n cap start places (n - start) 1 (start + 1 + 1 + places) zs _ w hrow h3 h1 (by unfold maxLen at h2; omega) hn (by omega) hpb (by omega) (.inr ⟨by omega, rfl⟩) rfl rfl
end Go.Proofs.Qxb6602096a
