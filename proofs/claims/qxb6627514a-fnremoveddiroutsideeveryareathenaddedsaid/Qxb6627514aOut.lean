/-
  The walk of FnRemovedDirOutsideEveryAreaThenAdded.
-/
import Derived.Test.Qxb6627514aOutP
namespace Go.Proofs.Qxb6627514a
open Go.ChangeShapes Go.WideShapes Go.ChangeAt Go.RowKit Go.Lib Go.Lib.Pa
set_option linter.unusedVariables false

structure TrueOut2 (w : World) (e : Ending) (w' : World) : Prop where
  out : e = .returned (.bool true)
  below : Below w.heap.size w w'

/-- The folders laid into the grown list, k of the old ones done. -/
def fillAt (ss : List ByteArray) (j k i : Nat) : ByteArray := if i < j ∧ i < k then nth ss i else if j < i ∧ i - 1 < k then nth ss (i - 1) else ByteArray.empty
theorem fill_zero (ss : List ByteArray) (j i : Nat) : fillAt ss j 0 i = ByteArray.empty := by
  unfold fillAt
  rw [if_neg (by omega), if_neg (by omega)]
theorem fill_low {ss : List ByteArray} {j k : Nat} (h : k < j) (i : Nat) : (if i = k then nth ss k else fillAt ss j k i) = fillAt ss j (k + 1) i := by
  unfold fillAt
  by_cases e : i = k
  · subst e
    rw [if_pos rfl, if_pos ⟨h, by omega⟩]
  · rw [if_neg e]
    have e1 : (i < j ∧ i < k) ↔ (i < j ∧ i < k + 1) := by omega
    have e2 : (j < i ∧ i - 1 < k) ↔ (j < i ∧ i - 1 < k + 1) := by omega
    simp only [e1, e2]
theorem fill_high {ss : List ByteArray} {j k : Nat} (h : ¬ k < j) (i : Nat) : (if i = k + 1 then nth ss k else fillAt ss j k i) = fillAt ss j (k + 1) i := by
  unfold fillAt
  by_cases e : i = k + 1
  · subst e
    rw [if_pos rfl, if_neg (by omega), if_pos ⟨by omega, by omega⟩]
    rfl
  · rw [if_neg e]
    have e1 : (i < j ∧ i < k) ↔ (i < j ∧ i < k + 1) := by omega
    have e2 : (j < i ∧ i - 1 < k) ↔ (j < i ∧ i - 1 < k + 1) := by omega
    simp only [e1, e2]
theorem fill_done {ss : List ByteArray} {dir : ByteArray} {j len : Nat} (hj : j ≤ len) {i : Nat} (hi : i < len + 1) : (if i = j then dir else fillAt ss j len i) = grownAt ss dir j i := by
  unfold fillAt grownAt
  by_cases e : i = j
  · rw [if_pos e, if_pos e]
  · rw [if_neg e, if_neg e]
    by_cases h1 : i < j
    · rw [if_pos ⟨h1, by omega⟩, if_pos h1]
    · rw [if_neg (by omega), if_neg h1, if_pos ⟨by omega, by omega⟩]
theorem areaCell_congr {g h : Nat → ByteArray} {n : Nat} (e : ∀ i, i < n → g i = h i) : ∀ i, i < n * 3 → areaCell g i = areaCell h i := by
  intro i hi
  unfold areaCell
  rw [e (i / 3) (by omega)]

theorem data_suf1 (x : ByteArray) : (x ++ { data := #[45, 114, 101, 109, 111, 118, 101, 100] }).toList = x.data.toList ++ sufR := by
  rw [toList_data]
  simp [sufR]
theorem data_suf2 (x : ByteArray) : ({ data := #[45, 114, 101, 109, 111, 118, 101, 100] } ++ x).toList = sufR ++ x.data.toList := by
  rw [toList_data]
  simp [sufR]

set_option maxRecDepth 100000 in
set_option maxHeartbeats 4000000 in
theorem out_walk (a : Option Addr) (len cap : Nat) (ss : List ByteArray) (dir : ByteArray) (j : Int) (w : World) (hr : StrRow w a len ss) (ht : dir.size ≤ maxLen) :
    Calls Try.prog 4 #[.slice a len cap, .string dir, .int .i64 j] w (TrueOut2 w) := by
  go_enter Try.func4, Try.ntmps4
  go_wp2_with fail
  refine (bytesB_any a len cap ss j dir w hr ht).mono ?_
  rintro e w' ⟨r, rfl, rfl⟩
  cases r with
  | false =>
    go_wp2
    go_ret
    exact ⟨rfl, Below.refl _ _⟩
  | true =>
  go_wp2_with fail
  refine (size_any a len cap ss dir { data := #[] } w hr ht (by decide)).mono ?_
  rintro e w' ⟨r, rfl, hq, rfl⟩
  cases r with
  | false =>
    go_wp2
    go_ret
    exact ⟨rfl, Below.refl _ _⟩
  | true =>
  obtain ⟨hlen, htz, _, hsz⟩ := hq rfl
  clear hq
  go_wp2_with fail
  refine (outP_any a len cap ss dir j w hr hlen hsz htz).mono ?_
  rintro e w' ⟨r, rfl, hf, rfl⟩
  cases r with
  | false =>
    go_wp2
    go_ret
    exact ⟨rfl, Below.refl _ _⟩
  | true =>
  obtain ⟨hi0, hF⟩ := hf rfl
  obtain ⟨m, rfl⟩ := Int.eq_ofNat_of_zero_le hi0
  rw [Int.toNat_natCast] at hF
  have hm := hF.le
  clear hf hi0
  go_wp2_with fail
  refine (areas_any _ len cap ss w hr hlen).mono ?_
  rintro e w3 ⟨rfl, hb3, hr3⟩
  have hmk := make_areas (len + 1) (by omega)
  rw [show ((len + 1 : Nat) : Int) = (len : Int) + 1 by omega] at hmk
  go_wp2
  clear hmk
  have hz3 := hb3.size
  have hr4 := hr3.alloc (.cells (madeCells #[.string ByteArray.empty, .string ByteArray.empty, .int .i64 0] ((len + 1) * 3)) 30)
  have HB4 : Below w.heap.size w (w3.alloc (.cells (madeCells #[.string ByteArray.empty, .string ByteArray.empty, .int .i64 0] ((len + 1) * 3)) 30)) := hb3.alloc hz3 _
  have hlt3 := hr3.lt
  have HG := rowIs_areas w3 (len + 1)
  go_loopw [9] (fun i wr => ∃ k : Nat, k ≤ len ∧ i = .int .i64 k ∧ Below w.heap.size w wr ∧ wr.rowIs w.heap.size 30 (len * 3) (areaCell (nth ss)) ∧ wr.rowIs w3.heap.size 30 ((len + 1) * 3) (areaCell (fillAt ss m k))) (fun i _ => len - (RowKit.intOf i).toNat)
  case atStart => exact ⟨0, Nat.zero_le _, rfl, HB4, hr4, HG.congr (areaCell_congr fun i hi => (fill_zero ss m i).symm)⟩
  case round =>
    clear HB4 hr4 HG hb3 hr3
    obtain ⟨k, hk, rfl, hbel, hra, hrg⟩ := hrel
    have HBL : Hid (Below w.heap.size w _) := hbel
    have HRA : Hid (World.rowIs _ w.heap.size 30 (len * 3) (areaCell (nth ss))) := hra
    by_cases hlt : k < len
    · obtain ⟨b, off, rfl, hc⟩ := hr.2.2.2 (by omega)
      have hck := (hbel.cell (p := ⟨b, off + k, none⟩) (block_lt (hc k hlt))).trans (hc k hlt)
      have hlt' : (k : Int) < len := by omega
      clear hc hr hbel hra
      by_cases hlow : k < m
      · have hlow' : (k : Int) < m := by omega
        have c0 := hrg.cell (show k * 3 < (len + 1) * 3 by omega)
        have c1 := hrg.cell (show k * 3 + 1 < (len + 1) * 3 by omega)
        have c2 := hrg.cell (show k * 3 + 2 < (len + 1) * 3 by omega)
        have f0 := hrg.frozen (k * 3)
        have f1 := hrg.frozen (k * 3 + 1)
        have f2 := hrg.frozen (k * 3 + 2)
        have HR2 : Hid (World.rowIs _ w3.heap.size 30 ((len + 1) * 3) (areaCell (fillAt ss m (k + 1)))) := (rowIs_store hrg k (nth ss k)).congr (areaCell_congr fun i hi => fill_low hlow i)
        clear hrg
        go_wp2
        go_roundw
        case rel => exact ⟨k + 1, by omega, by go_num, ((HBL.out.setCell hz3 _).setCell hz3 _).setCell hz3 _, ((HRA.out.setOther (by simp; omega) _).setOther (by simp; omega) _).setOther (by simp; omega) _, HR2.out⟩
        case measure => simp [RowKit.intOf]; omega
      · have hlow' : ¬ (k : Int) < m := by omega
        have c0 := hrg.cell (show (k + 1) * 3 < (len + 1) * 3 by omega)
        have c1 := hrg.cell (show (k + 1) * 3 + 1 < (len + 1) * 3 by omega)
        have c2 := hrg.cell (show (k + 1) * 3 + 2 < (len + 1) * 3 by omega)
        have f0 := hrg.frozen ((k + 1) * 3)
        have f1 := hrg.frozen ((k + 1) * 3 + 1)
        have f2 := hrg.frozen ((k + 1) * 3 + 2)
        have HR2 : Hid (World.rowIs _ w3.heap.size 30 ((len + 1) * 3) (areaCell (fillAt ss m (k + 1)))) := (rowIs_store hrg (k + 1) (nth ss k)).congr (areaCell_congr fun i hi => fill_high hlow i)
        clear hrg
        go_wp2
        go_roundw
        case rel => exact ⟨k + 1, by omega, by go_num, ((HBL.out.setCell hz3 _).setCell hz3 _).setCell hz3 _, ((HRA.out.setOther (by simp; omega) _).setOther (by simp; omega) _).setOther (by simp; omega) _, HR2.out⟩
        case measure => simp [RowKit.intOf]; omega
    · have hke : k = len := by omega
      subst hke
      have hlt' : ¬ (k : Int) < k := by omega
      have hm' : (m : Int) < (k : Int) + 1 := by omega
      have c0 := hrg.cell (show m * 3 < (k + 1) * 3 by omega)
      have c1 := hrg.cell (show m * 3 + 1 < (k + 1) * 3 by omega)
      have c2 := hrg.cell (show m * 3 + 2 < (k + 1) * 3 by omega)
      have f0 := hrg.frozen (m * 3)
      have f1 := hrg.frozen (m * 3 + 1)
      have f2 := hrg.frozen (m * 3 + 2)
      have HRG : Hid (World.rowIs _ w3.heap.size 30 ((k + 1) * 3) (areaCell (grownAt ss dir m))) := (rowIs_store hrg m dir).congr (areaCell_congr fun i hi => fill_done hm hi)
      clear hbel hra hrg
      have HB5 : Below w.heap.size w (((wr.setCell ⟨w3.heap.size, m * 3, none⟩ (.string dir)).setCell ⟨w3.heap.size, m * 3 + 1, none⟩ (.string { data := #[] })).setCell ⟨w3.heap.size, m * 3 + 2, none⟩ (.int .i64 0)) := ((HBL.out.setCell hz3 _).setCell hz3 _).setCell hz3 _
      have HRA5 : (((wr.setCell ⟨w3.heap.size, m * 3, none⟩ (.string dir)).setCell ⟨w3.heap.size, m * 3 + 1, none⟩ (.string { data := #[] })).setCell ⟨w3.heap.size, m * 3 + 2, none⟩ (.int .i64 0)).rowIs w.heap.size 30 (k * 3) (areaCell (nth ss)) := ((HRA.out.setOther (by simp; omega) _).setOther (by simp; omega) _).setOther (by simp; omega) _
      have HRG5 := HRG.out
      clear HBL HRA HRG
      go_wp2_with fail
      generalize (((wr.setCell ⟨w3.heap.size, m * 3, none⟩ (.string dir)).setCell ⟨w3.heap.size, m * 3 + 1, none⟩ (.string { data := #[] })).setCell ⟨w3.heap.size, m * 3 + 2, none⟩ (.int .i64 0)) = W5 at *
      clear c0 c1 c2 f0 f1 f2
      have HGZ : Hid (∀ i, i < k + 1 → (grownAt ss dir m i).size ≤ 1048576) := fun i hi => by
        unfold grownAt
        split
        · exact htz
        · split
          · exact hsz i (by omega)
          · exact hsz (i - 1) (by omega)
      have BF : Hid (remOf (outTo dir.data.toList (fun i => (nth ss i).data.toList) k) dir.data.toList = sufR ++ dir.data.toList) := by
        show _ = _
        rw [before_law hF]
        rfl
      refine (clean_bool dir W5 (by omega)).mono ?_
      rintro e w' ⟨b1, rfl, B1, rfl⟩
      cases b1 with
      | false =>
        have AF : Hid (remOf (outTo dir.data.toList (fun i => (grownAt ss dir m i).data.toList) (k + 1)) dir.data.toList = sufR ++ dir.data.toList) := by
          show _ = _
          rw [after_dirty B1.out]
          rfl
        clear hr
        go_wp2_with fail
        refine (removed_any _ k dir (nth ss) W5 HRA5 (by omega) hsz (by omega)).mono ?_
        rintro e w6 ⟨r1, rfl, hr1, hb6⟩
        have HRG6 := HRG5.of_block (hb6.block _ HRG5.lt)
        have HB6 := HB5.trans (hb6.mono HB5.size)
        rw [BF.out] at hr1
        have R1 : Hid (r1.data.toList = sufR ++ dir.data.toList) := hr1
        clear hr1
        go_wp2_with fail
        refine (removed_any _ (k + 1) dir (grownAt ss dir m) w6 HRG6 (by omega) HGZ.out (by omega)).mono ?_
        rintro e w7 ⟨r2, rfl, hr2, hb7⟩
        have HB7 : Hid (Below w.heap.size w w7) := HB6.trans (hb7.mono HB6.size)
        rw [AF.out] at hr2
        have e1 : (r1.toList == ({ data := #[45, 114, 101, 109, 111, 118, 101, 100] } ++ dir).toList) = true := by
          rw [data_suf2, toList_data, R1.out, beq_iff_eq]
        have e2 : (r2.toList == ({ data := #[45, 114, 101, 109, 111, 118, 101, 100] } ++ dir).toList) = true := by
          rw [data_suf2, toList_data, hr2, beq_iff_eq]
        clear hr2 hb6 hb7 HRG6 HB6 HB5 HRA5 HRG5
        go_wp2
        go_ret
        exact ⟨rfl, HB7.out⟩
      | true =>
        have hpos : 0 < dir.size := by
          rcases Nat.eq_zero_or_pos dir.size with h | h
          · have hnil := nil_of_size dir (by omega)
            have := B1.out
            rw [hnil] at this
            exact absurd this (by decide)
          · exact h
        cases rt : (((dir[0]'hpos).toNat : Int) == 47) with
        | false =>
          have hro : rootedB dir.data.toList = false := (isAbs_pos dir hpos).trans rt
          have AF : Hid (remOf (outTo dir.data.toList (fun i => (grownAt ss dir m i).data.toList) (k + 1)) dir.data.toList = dir.data.toList ++ sufR) := by
            show _ = _
            rw [after_law (E := false) hF B1.out ⟨fun h => absurd h (by decide), fun h => by rw [hro] at h; exact absurd h.1 (by decide)⟩, if_neg (by decide)]
            unfold remOf
            rw [List.drop_length, List.append_nil]
          clear hr hro
          go_wp2_with fail
          refine (removed_any _ k dir (nth ss) W5 HRA5 (by omega) hsz (by omega)).mono ?_
          rintro e w6 ⟨r1, rfl, hr1, hb6⟩
          have HRG6 := HRG5.of_block (hb6.block _ HRG5.lt)
          have HB6 := HB5.trans (hb6.mono HB5.size)
          rw [BF.out] at hr1
          have R1 : Hid (r1.data.toList = sufR ++ dir.data.toList) := hr1
          clear hr1
          go_wp2_with fail
          refine (removed_any _ (k + 1) dir (grownAt ss dir m) w6 HRG6 (by omega) HGZ.out (by omega)).mono ?_
          rintro e w7 ⟨r2, rfl, hr2, hb7⟩
          have HB7 : Hid (Below w.heap.size w w7) := HB6.trans (hb7.mono HB6.size)
          rw [AF.out] at hr2
          have e1 : (r1.toList == ({ data := #[45, 114, 101, 109, 111, 118, 101, 100] } ++ dir).toList) = true := by
            rw [data_suf2, toList_data, R1.out, beq_iff_eq]
          have e2 : (r2.toList == (dir ++ { data := #[45, 114, 101, 109, 111, 118, 101, 100] }).toList) = true := by
            rw [data_suf1, toList_data, hr2, beq_iff_eq]
          clear hr2 hb6 hb7 HRG6 HB6 HB5 HRA5 HRG5
          go_wp2
          go_ret
          exact ⟨rfl, HB7.out⟩
        | true =>
          have hro : Hid (rootedB dir.data.toList = true) := (isAbs_pos dir hpos).trans rt
          go_wp2
          go_loop [11, 12] (fun f i => ∃ (q : Nat) (E : Bool), m ≤ q ∧ q ≤ k ∧ i = .int .i64 q ∧ f = .bool E ∧ (E = true ↔ ∃ i, m ≤ i ∧ i < q ∧ (nth ss i).data.toList = [])) (fun _ i => k - (RowKit.intOf i).toNat)
          case atStart => exact ⟨m, false, Nat.le_refl _, hm, rfl, rfl, ⟨fun h => absurd h (by decide), fun h => by obtain ⟨i, h1, h2, _⟩ := h; omega⟩⟩
          case round =>
            obtain ⟨q, E, hq1, hq2, rfl, rfl, hE⟩ := hrel
            have HE : Hid (E = true ↔ ∃ i, m ≤ i ∧ i < q ∧ (nth ss i).data.toList = []) := hE
            clear hE
            by_cases hlq : q < k
            · obtain ⟨b, off, rfl, hc⟩ := hr.2.2.2 (by omega)
              have hck := (HB5.cell (p := ⟨b, off + q, none⟩) (block_lt (hc q hlq))).trans (hc q hlq)
              have hlq' : (q : Int) < k := by omega
              clear hc hr HB5 HRA5 HRG5
              cases de : (nth ss q).toList.isEmpty with
              | true =>
                have HN : Hid (true = true ↔ ∃ i, m ≤ i ∧ i < q + 1 ∧ (nth ss i).data.toList = []) := ⟨fun _ => ⟨q, hq1, by omega, by rw [← toList_data]; exact List.isEmpty_iff.1 de⟩, fun _ => rfl⟩
                go_wp2
                go_round
                case rel => exact ⟨q + 1, true, by omega, by omega, by go_num, rfl, HN.out⟩
                case measure => simp [RowKit.intOf]; omega
              | false =>
                have HN : Hid (E = true ↔ ∃ i, m ≤ i ∧ i < q + 1 ∧ (nth ss i).data.toList = []) := by
                  refine HE.out.trans ⟨fun h => ?_, fun h => ?_⟩
                  · obtain ⟨i, h1, h2, h3⟩ := h
                    exact ⟨i, h1, by omega, h3⟩
                  · obtain ⟨i, h1, h2, h3⟩ := h
                    refine ⟨i, h1, ?_, h3⟩
                    rcases Nat.lt_or_ge i q with h4 | h4
                    · exact h4
                    · have : i = q := by omega
                      subst this
                      rw [toList_data, h3] at de
                      exact absurd de (by decide)
                go_wp2
                go_round
                case rel => exact ⟨q + 1, E, by omega, by omega, by go_num, rfl, HN.out⟩
                case measure => simp [RowKit.intOf]; omega
            · have hqe : q = k := by omega
              subst hqe
              have hlq' : ¬ (q : Int) < q := by omega
              have AF0 := after_law (E := E) hF B1.out (HE.out.trans ⟨fun h => ⟨hro.out, h⟩, fun h => h.2⟩)
              cases E with
              | true =>
                have AF : Hid (remOf (outTo dir.data.toList (fun i => (grownAt ss dir m i).data.toList) (q + 1)) dir.data.toList = sufR ++ dir.data.toList) := by
                  show _ = _
                  rw [AF0, if_pos rfl]
                  rfl
                clear hr AF0
                go_wp2_with fail
                refine (removed_any _ q dir (nth ss) W5 HRA5 (by omega) hsz (by omega)).mono ?_
                rintro e w6 ⟨r1, rfl, hr1, hb6⟩
                have HRG6 := HRG5.of_block (hb6.block _ HRG5.lt)
                have HB6 := HB5.trans (hb6.mono HB5.size)
                rw [BF.out] at hr1
                have R1 : Hid (r1.data.toList = sufR ++ dir.data.toList) := hr1
                clear hr1
                go_wp2_with fail
                refine (removed_any _ (q + 1) dir (grownAt ss dir m) w6 HRG6 (by omega) HGZ.out (by omega)).mono ?_
                rintro e w7 ⟨r2, rfl, hr2, hb7⟩
                have HB7 : Hid (Below w.heap.size w w7) := HB6.trans (hb7.mono HB6.size)
                rw [AF.out] at hr2
                have e1 : (r1.toList == ({ data := #[45, 114, 101, 109, 111, 118, 101, 100] } ++ dir).toList) = true := by
                  rw [data_suf2, toList_data, R1.out, beq_iff_eq]
                have e2 : (r2.toList == ({ data := #[45, 114, 101, 109, 111, 118, 101, 100] } ++ dir).toList) = true := by
                  rw [data_suf2, toList_data, hr2, beq_iff_eq]
                clear hr2 hb6 hb7 HRG6 HB6 HB5 HRA5 HRG5
                go_wp2
                go_ret
                exact ⟨rfl, HB7.out⟩
              | false =>
                have AF : Hid (remOf (outTo dir.data.toList (fun i => (grownAt ss dir m i).data.toList) (q + 1)) dir.data.toList = dir.data.toList ++ sufR) := by
                  show _ = _
                  rw [AF0, if_neg (by decide)]
                  unfold remOf
                  rw [List.drop_length, List.append_nil]
                clear hr AF0
                go_wp2_with fail
                refine (removed_any _ q dir (nth ss) W5 HRA5 (by omega) hsz (by omega)).mono ?_
                rintro e w6 ⟨r1, rfl, hr1, hb6⟩
                have HRG6 := HRG5.of_block (hb6.block _ HRG5.lt)
                have HB6 := HB5.trans (hb6.mono HB5.size)
                rw [BF.out] at hr1
                have R1 : Hid (r1.data.toList = sufR ++ dir.data.toList) := hr1
                clear hr1
                go_wp2_with fail
                refine (removed_any _ (q + 1) dir (grownAt ss dir m) w6 HRG6 (by omega) HGZ.out (by omega)).mono ?_
                rintro e w7 ⟨r2, rfl, hr2, hb7⟩
                have HB7 : Hid (Below w.heap.size w w7) := HB6.trans (hb7.mono HB6.size)
                rw [AF.out] at hr2
                have e1 : (r1.toList == ({ data := #[45, 114, 101, 109, 111, 118, 101, 100] } ++ dir).toList) = true := by
                  rw [data_suf2, toList_data, R1.out, beq_iff_eq]
                have e2 : (r2.toList == (dir ++ { data := #[45, 114, 101, 109, 111, 118, 101, 100] }).toList) = true := by
                  rw [data_suf1, toList_data, hr2, beq_iff_eq]
                clear hr2 hb6 hb7 HRG6 HB6 HB5 HRA5 HRG5
                go_wp2
                go_ret
                exact ⟨rfl, HB7.out⟩
end Go.Proofs.Qxb6627514a
