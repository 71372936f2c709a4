/-
  The walk of zzAreasB1: a slice of structs of three cells, filled one by one.
-/
import Derived.Test.Qxb6627514aSize
import Derived.Deep.OwnRows
namespace Go.Proofs.Qxb6627514a
open Go.ChangeShapes Go.WideShapes Go.ChangeAt Go.RowKit
set_option linter.unusedVariables false

/-- The cells of a row of areas whose folders are g 0, g 1 .. -/
def areaCell (g : Nat → ByteArray) (j : Nat) : Value := if j % 3 = 0 then .string (g (j / 3)) else if j % 3 = 1 then .string ByteArray.empty else .int .i64 0
def zeroArea : Value := .agg #[.string ByteArray.empty, .string ByteArray.empty, .int .i64 0]

theorem info30 : (Try.prog.info? 30).map (fun i => (i.zero, i.size, i.bytes)) = some (some zeroArea, 3, 40) := by kernel_rfl
theorem make_areas (n : Nat) (h : n ≤ 65537) (w : World) : (Instr.makeSlice 25 (.int .i64 (n : Int)) (.int .i64 (n : Int))).run Try.prog w = .ok (.slice (some ⟨w.heap.size, 0, none⟩) n n) (w.alloc (.cells (madeCells #[.string ByteArray.empty, .string ByteArray.empty, .int .i64 0] (n * 3)) 30)) := by
  obtain ⟨i, hi, hzz⟩ := Option.map_eq_some_iff.1 info30
  simp only [Prod.mk.injEq] at hzz
  obtain ⟨hz, hs, hb⟩ := hzz
  have hr := run_make (P := Try.prog) w 25 30 i zeroArea Try.underlying25 hi hz .i64 .i64 n n (by omega) (Int.le_refl _) (by rw [hb]; omega) (by omega)
  simp only [Int.toNat_natCast, hs] at hr
  exact hr
theorem rowIs_areas (w : World) (n : Nat) : (w.alloc (.cells (madeCells #[.string ByteArray.empty, .string ByteArray.empty, .int .i64 0] (n * 3)) 30)).rowIs w.heap.size 30 (n * 3) (areaCell fun _ => ByteArray.empty) := by
  refine ⟨_, Go.Deep.blk_alloc_new _ _, size_madeCells _ _, fun i hi => ?_⟩
  have h3 : i % 3 = 0 ∨ i % 3 = 1 ∨ i % 3 = 2 := by omega
  simp only [madeCells, Array.getElem?_map, Array.getElem?_range, if_pos hi, Option.map_some, areaCell]
  rcases h3 with h | h | h <;> simp [h]

/-- One area stored whole. -/
theorem rowIs_store {w : World} {B n : Nat} {g : Nat → ByteArray} (h : w.rowIs B 30 n (areaCell g)) (k : Nat) (s : ByteArray) :
    (((w.setCell ⟨B, k * 3, none⟩ (.string s)).setCell ⟨B, k * 3 + 1, none⟩ (.string { data := #[] })).setCell ⟨B, k * 3 + 2, none⟩ (.int .i64 0)).rowIs B 30 n (areaCell fun i => if i = k then s else g i) := by
  refine (((h.set (k * 3) (.string s)).set (k * 3 + 1) (.string { data := #[] })).set (k * 3 + 2) (.int .i64 0)).congr (fun j hj => ?_)
  unfold areaCell
  by_cases h2 : j = k * 3 + 2
  · have e : j % 3 = 2 := by omega
    simp [h2]
  · by_cases h1 : j = k * 3 + 1
    · have e : j % 3 = 1 := by omega
      simp only [if_neg h2, if_pos h1, e]
      rfl
    · by_cases h0 : j = k * 3
      · have e : j % 3 = 0 := by omega
        have e2 : j / 3 = k := by omega
        simp only [if_neg h2, if_neg h1, if_pos h0, e, e2, if_true]
      · simp only [if_neg h2, if_neg h1, if_neg h0]
        by_cases e : j % 3 = 0
        · have e2 : ¬ j / 3 = k := by omega
          simp only [e, if_true, if_neg e2]
        · simp only [if_neg e]

theorem block_lt {w : World} {b o : Nat} {v : Value} (h : w.cell? ⟨b, o, none⟩ = some v) : b < w.heap.size := by
  rcases Nat.lt_or_ge b w.heap.size with h1 | h1
  · exact h1
  · have : w.heap[b]? = none := Array.getElem?_eq_none h1
    simp [World.cell?, this] at h
theorem StrRow.below {w w' : World} {a : Option Addr} {len : Nat} {ss : List ByteArray} (h : StrRow w a len ss) (hb : Below w.heap.size w w') : StrRow w' a len ss := by
  refine ⟨h.1, h.2.1, h.2.2.1, fun hl => ?_⟩
  obtain ⟨b, off, rfl, hc⟩ := h.2.2.2 hl
  exact ⟨b, off, rfl, fun i hi => by rw [hb.cell (block_lt (hc i hi))]; exact hc i hi⟩

structure AreasOut (len : Nat) (ss : List ByteArray) (w : World) (e : Ending) (w' : World) : Prop where
  out : e = .returned (.slice (some ⟨w.heap.size, 0, none⟩) len len)
  below : Below w.heap.size w w'
  row : w'.rowIs w.heap.size 30 (len * 3) (areaCell (nth ss))

set_option maxHeartbeats 1000000 in
theorem areas_any (a : Option Addr) (len cap : Nat) (ss : List ByteArray) (w : World) (hr : StrRow w a len ss) (hlen : len ≤ 65536) :
    Calls Try.prog 8 #[.slice a len cap] w (AreasOut len ss w) := by
  have hmk := make_areas len (by omega)
  go_enter Try.func8, Try.ntmps8
  go_wp2
  clear hmk
  go_loopw [4] (fun i wr => ∃ k : Nat, k ≤ len ∧ i = .int .i64 k ∧ Below w.heap.size w wr ∧ wr.rowIs w.heap.size 30 (len * 3) (areaCell fun i => if i < k then nth ss i else ByteArray.empty)) (fun i _ => len - (intOf i).toNat)
  case atStart => exact ⟨0, Nat.zero_le _, rfl, (Below.refl _ _).alloc (Nat.le_refl _) _, (rowIs_areas w len).congr (fun i hi => by simp)⟩
  case round =>
    obtain ⟨k, hk, rfl, hbel, hrow⟩ := hrel
    by_cases hlt : k < len
    · obtain ⟨b, off, rfl, hc⟩ := hr.2.2.2 (by omega)
      have hck := (hbel.cell (p := ⟨b, off + k, none⟩) (block_lt (hc k hlt))).trans (hc k hlt)
      have c0 := hrow.cell (show k * 3 < len * 3 by omega)
      have c1 := hrow.cell (show k * 3 + 1 < len * 3 by omega)
      have c2 := hrow.cell (show k * 3 + 2 < len * 3 by omega)
      have f0 := hrow.frozen (k * 3)
      have f1 := hrow.frozen (k * 3 + 1)
      have f2 := hrow.frozen (k * 3 + 2)
      have HB : Hid (Below w.heap.size w _) := hbel
      have HR := rowIs_store hrow k (nth ss k)
      have HR2 : Hid (World.rowIs _ w.heap.size 30 (len * 3) (areaCell fun i => if i < k + 1 then nth ss i else ByteArray.empty)) := HR.congr (fun j hj => by
        congr 1
        funext i
        by_cases e : i = k
        · subst e; simp
        · by_cases h2 : i < k
          · simp only [if_neg e, if_pos h2, if_pos (show i < k + 1 by omega)]
          · simp only [if_neg e, if_neg h2, if_neg (show ¬ i < k + 1 by omega)])
      clear hc hr hbel hrow HR
      go_wp2
      go_roundw
      case rel => exact ⟨k + 1, by omega, by go_num, ((HB.out.setCell (by simp) _).setCell (by simp) _).setCell (by simp) _, HR2.out⟩
      case measure => simp [intOf]; omega
    · have hke : k = len := by omega
      subst hke
      have HB : Hid (Below w.heap.size w _) := hbel
      have HR : Hid (World.rowIs _ w.heap.size 30 (k * 3) (areaCell (nth ss))) := hrow.congr (fun j hj => by
        unfold areaCell
        simp only [if_pos (show j / 3 < k by omega)])
      clear hbel hrow hr
      go_wp2
      go_ret
      exact ⟨rfl, HB.out, HR.out⟩
end Go.Proofs.Qxb6627514a
