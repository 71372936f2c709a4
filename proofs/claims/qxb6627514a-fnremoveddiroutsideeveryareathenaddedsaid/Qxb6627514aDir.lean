/-
  The walk of RemovedDir.
-/
import Derived.Test.Qxb6627514aZz
import Derived.Test.Qxb6627514aAreas
namespace Go.Proofs.Qxb6627514a
open Go.ChangeShapes Go.WideShapes Go.ChangeAt Go.RowKit Go.Lib Go.Lib.Pa
set_option linter.unusedVariables false

structure DirOut (dir : List UInt8) (g : Nat → List UInt8) (n : Nat) (w : World) (e : Ending) (w' : World) : Prop where
  out : ∃ r : ByteArray, e = .returned (.string r) ∧ r.data.toList = remOf (outTo dir g n) dir ∧ Below w.heap.size w w'

theorem areaCell0 (g : Nat → ByteArray) (k : Nat) : areaCell g (k * 3) = .string (g k) := by
  unfold areaCell
  rw [if_pos (by omega), show k * 3 / 3 = k by omega]
theorem areaCell1 (g : Nat → ByteArray) (k : Nat) : areaCell g (k * 3 + 1) = .string ByteArray.empty := by
  unfold areaCell
  rw [if_neg (by omega), if_pos (by omega)]
theorem areaCell2 (g : Nat → ByteArray) (k : Nat) : areaCell g (k * 3 + 2) = .int .i64 0 := by
  unfold areaCell
  rw [if_neg (by omega), if_neg (by omega)]

set_option maxRecDepth 100000 in
set_option maxHeartbeats 2000000 in
theorem removed_any (B n : Nat) (dir : ByteArray) (g : Nat → ByteArray) (w : World) (hrow : w.rowIs B 30 (n * 3) (areaCell g)) (hn : n ≤ 65537) (hg : ∀ i, i < n → (g i).size ≤ 1048576) (hd : dir.size ≤ 4194304) :
    Calls Try.prog 9 #[.slice (some ⟨B, 0, none⟩) n n, .string dir] w (DirOut dir.data.toList (fun i => (g i).data.toList) n w) := by
  have hB := hrow.lt
  go_enter Try.func9, Try.ntmps9
  go_wp2
  go_loopw [5, 10] (fun o i wr => ∃ (k : Nat) (s : ByteArray), k ≤ n ∧ i = .int .i64 k ∧ o = .string s ∧ s.data.toList = outTo dir.data.toList (fun i => (g i).data.toList) k ∧ Below w.heap.size w wr) (fun _ i _ => n - (RowKit.intOf i).toNat)
  case atStart => exact ⟨0, _, Nat.zero_le _, rfl, rfl, rfl, Below.refl _ _⟩
  case round =>
    obtain ⟨k, s, hk, rfl, rfl, hs, hbel⟩ := hrel
    have HS : Hid (s.data.toList = outTo dir.data.toList (fun i => (g i).data.toList) k) := hs
    have hpre : s.size ≤ dir.size := by
      rw [Lib.size_eq, Lib.size_eq, hs]
      exact (outTo_prefix _ _ _).length_le
    clear hs
    by_cases hlt : k < n
    · have c0 := hrow.cell (show k * 3 < n * 3 by omega)
      have c1 := hrow.cell (show k * 3 + 1 < n * 3 by omega)
      have c2 := hrow.cell (show k * 3 + 2 < n * 3 by omega)
      rw [areaCell0] at c0
      rw [areaCell1] at c1
      rw [areaCell2] at c2
      rw [← hbel.cell (p := ⟨B, k * 3, none⟩) hB] at c0
      rw [← hbel.cell (p := ⟨B, k * 3 + 1, none⟩) hB] at c1
      rw [← hbel.cell (p := ⟨B, k * 3 + 2, none⟩) hB] at c2
      have hgk := hg k hlt
      have HBL : Hid (Below w.heap.size w _) := hbel
      have hsz := hbel.size
      have hlt' : (k : Int) < n := by omega
      clear hbel hrow hg
      go_wp2_with fail
      refine (within_any dir (g k) _ hd (by omega)).mono ?_
      rintro e w2 ⟨he, hb2⟩
      obtain ⟨b, B0⟩ : ∃ b, withinB dir.data.toList (g k).data.toList = b := ⟨_, rfl⟩
      have WB : Hid (withinB dir.data.toList (g k).data.toList = b) := B0
      rw [B0] at he
      clear B0
      subst he
      have c5 : w2.cell? ⟨wr.heap.size, 0, none⟩ = some (.string (g k)) := by
        rw [hb2.cell (p := ⟨wr.heap.size, 0, none⟩) (by simp)]
        exact World.cell?_alloc_new _ _ _ _
      have HB2 : Hid (Below w.heap.size w w2) := (HBL.out.alloc hsz _).trans (hb2.mono (by simp; omega))
      have HO : Hid (outTo dir.data.toList (fun i => (g i).data.toList) (k + 1) = if withinB dir.data.toList (g k).data.toList = true ∧ (outTo dir.data.toList (fun i => (g i).data.toList) k = [] ∨ (g k).data.toList.length < (outTo dir.data.toList (fun i => (g i).data.toList) k).length) then (g k).data.toList else outTo dir.data.toList (fun i => (g i).data.toList) k) := rfl
      clear hb2 HBL c0 c1 c2
      cases b with
      | false =>
        have HE : Hid (s.data.toList = outTo dir.data.toList (fun i => (g i).data.toList) (k + 1)) := by
          show _ = _
          rw [HO.out, if_neg (by rw [WB.out]; simp)]
          exact HS.out
        clear HO HS WB
        go_wp2
        go_roundw
        case rel => exact ⟨k + 1, s, by omega, by go_num, rfl, HE.out, HB2.out⟩
        case measure => simp [RowKit.intOf]; omega
      | true =>
        cases hem : s.toList.isEmpty with
        | true =>
          have HE : Hid ((g k).data.toList = outTo dir.data.toList (fun i => (g i).data.toList) (k + 1)) := by
            have hc : outTo dir.data.toList (fun i => (g i).data.toList) k = [] := by
              rw [← HS.out, ← toList_data]
              exact List.isEmpty_iff.1 hem
            show _ = _
            rw [HO.out, if_pos ⟨WB.out, .inl hc⟩]
          clear HO HS WB
          go_wp2
          go_roundw
          case rel => exact ⟨k + 1, g k, by omega, by go_num, rfl, HE.out, HB2.out⟩
          case measure => simp [RowKit.intOf]; omega
        | false =>
          by_cases hll : (g k).size < s.size
          · have HE : Hid ((g k).data.toList = outTo dir.data.toList (fun i => (g i).data.toList) (k + 1)) := by
              have hc : (g k).data.toList.length < (outTo dir.data.toList (fun i => (g i).data.toList) k).length := by
                rw [← HS.out, ← Lib.size_eq, ← Lib.size_eq]
                exact hll
              show _ = _
              rw [HO.out, if_pos ⟨WB.out, .inr hc⟩]
            have hll' : ((g k).size : Int) < s.size := by omega
            clear HO HS WB
            go_wp2
            go_roundw
            case rel => exact ⟨k + 1, g k, by omega, by go_num, rfl, HE.out, HB2.out⟩
            case measure => simp [RowKit.intOf]; omega
          · have HE : Hid (s.data.toList = outTo dir.data.toList (fun i => (g i).data.toList) (k + 1)) := by
              show _ = _
              rw [HO.out, if_neg ?_]
              · exact HS.out
              · rintro ⟨_, h | h⟩
                · rw [← HS.out, ← toList_data] at h
                  rw [h] at hem
                  exact absurd hem (by decide)
                · rw [← HS.out, ← Lib.size_eq, ← Lib.size_eq] at h
                  exact hll h
            have hll' : ¬ ((g k).size : Int) < s.size := by omega
            clear HO HS WB
            go_wp2
            go_roundw
            case rel => exact ⟨k + 1, s, by omega, by go_num, rfl, HE.out, HB2.out⟩
            case measure => simp [RowKit.intOf]; omega
    · have hke : k = n := by omega
      subst hke
      have HB2 : Hid (Below w.heap.size w _) := hbel
      clear hbel hrow hg
      have HR : Hid ((s ++ { data := #[45, 114, 101, 109, 111, 118, 101, 100] } ++ dir.extract s.size dir.size).data.toList = remOf (outTo dir.data.toList (fun i => (g i).data.toList) k) dir.data.toList) := by
        show _ = _
        unfold remOf sufR
        rw [← HS.out, ← Lib.size_eq]
        simp only [ByteArray.data_append, Array.toList_append, extract_data]
        rw [List.take_of_length_le (by rw [List.length_drop, ← Lib.size_eq]; omega)]
      clear HS
      go_wp2
      go_ret
      exact ⟨⟨_, rfl, HR.out, HB2.out⟩⟩
end Go.Proofs.Qxb6627514a
