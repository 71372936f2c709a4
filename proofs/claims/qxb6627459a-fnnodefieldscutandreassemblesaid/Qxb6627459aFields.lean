/-
  The walk of NodeFields.
-/
import Derived.Test.Qxb6627459aSmall
namespace Go.Proofs.Qxb6627459a
open Go.ChangeShapes Go.WideShapes Go.ChangeAt Go.RowKit

theorem make_any (len : Nat) (h : len ≤ 65536) (w : World) : (Instr.makeSlice 30 (.int .i64 (len : Int)) (.int .i64 (len : Int))).run Try.prog w = .ok (.slice (some ⟨w.heap.size, 0, none⟩) len len) (w.alloc (.cells (madeCells #[.int .i64 0] len) 2)) :=
  run_make_row' 30 2 (.int .i64 0) 8 Try.underlying30 (by kernel_rfl) rfl .i64 .i64 len (by omega) (by omega) w

/-- A field of b bits, sh bits up, of the number x, as the text reckons it. -/
def fld (x : Int) (sh b : Nat) : Int := bits .and .i64 (x / 2 ^ sh) (wrap64 (wrap64 (2 ^ b) - 1))
def fldAt (x : Int) (f : Nat → Nat) (len i : Nat) : Int := fld x (sumTo f len - sumTo f (i + 1)) (f i)

structure FieldsOut (x : Int) (f : Nat → Nat) (len : Nat) (w : World) (e : Ending) (w' : World) : Prop where
  out : e = .returned (.slice (some ⟨w.heap.size + 1, 0, none⟩) len len)
  below : Below w.heap.size w w'
  row : w'.rowIs (w.heap.size + 1) 2 len (fun i => .int .i64 (fldAt x f len i))

set_option maxHeartbeats 1000000 in
theorem fields_any (x0 x1 x2 x4 x : Int) (a : Option Addr) (len cap : Nat) (f : Nat → Nat) (w : World) (hr : Widths w a len f) (hs : sumTo f len ≤ 64) (hlen : len ≤ 65536) :
    Calls Try.prog 7 #[.agg #[.int .i64 x0, .int .i64 x1, .int .u64 x2, .slice a len cap, .int .u64 x4], .int .i64 x] w (FieldsOut x f len w) := by
  have hmk := make_any len hlen
  go_enter Try.func7, Try.ntmps7
  go_wp2_with fail
  have HB : Below w.heap.size w ((w.alloc (.cells #[.int .i64 x0, .int .i64 x1, .int .u64 x2, .slice a len cap, .int .u64 x4] 29)).alloc (.cells (madeCells #[.int .i64 0] len) 2)) := ((Below.refl _ _).alloc (Nat.le_refl _) _).alloc (by simp) _
  have HR := World.rowIs_made (w.alloc (.cells #[.int .i64 x0, .int .i64 x1, .int .u64 x2, .slice a len cap, .int .u64 x4] 29)) (.int .i64 0) len 2
  rw [World.size_alloc] at HR
  refine (wbits_any x0 x1 x2 x4 a len cap f _ (hr.below HB) hs).mono ?_
  rintro e w3 ⟨rfl, hb3⟩
  have c3 : w3.cell? ⟨w.heap.size, 3, none⟩ = some (.slice a len cap) := by
    rw [hb3.cell (p := ⟨w.heap.size, 3, none⟩) (by simp; omega)]
    simp
  have HR3 := HR.of_block (hb3.block (w.heap.size + 1) (by simp))
  have HB3 := HB.trans (hb3.mono (by simp; omega))
  clear HB HR hb3 hmk
  go_wp2
  clear c3
  go_loopw [6, 18] (fun s i wr => ∃ k : Nat, k ≤ len ∧ i = .int .i64 k ∧ s = .int .u64 (sumTo f len - sumTo f k : Nat) ∧ Below w.heap.size w wr ∧ wr.rowIs (w.heap.size + 1) 2 len (fun i => if i < k then .int .i64 (fldAt x f len i) else .int .i64 0)) (fun _ i _ => len - (intOf i).toNat)
  case atStart => exact ⟨0, Nat.zero_le _, rfl, rfl, HB3, HR3.congr (fun i hi => by simp)⟩
  case round =>
    obtain ⟨k, hk, rfl, rfl, hbel, hrow⟩ := hrel
    by_cases hlt : k < len
    · obtain ⟨b, off, rfl, hc⟩ := hr.2.2 (by omega)
      have hb := block_lt (hc k hlt)
      have hck : (_ : World).cell? ⟨b, off + k, none⟩ = some (.int .u64 (f k)) := (hbel.cell (p := ⟨b, off + k, none⟩) hb).trans (hc k hlt)
      have hst := hrow.cell hlt
      have hfz := hrow.frozen k
      simp only [Nat.lt_irrefl, if_false] at hst
      have hm := sumTo_mono f (show k + 1 ≤ len by omega)
      have HS : Hid (sumTo f (k + 1) = sumTo f k + f k) := rfl
      have hsub : ((sumTo f len - sumTo f k : Nat) : Int) - f k = ((sumTo f len - sumTo f (k + 1) : Nat) : Int) := by rw [HS.out] at hm ⊢; omega
      have HBL : Hid (Below w.heap.size w _) := hbel
      have HRW : Hid (World.rowIs _ (w.heap.size + 1) 2 len (fun i => if i < k then .int .i64 (fldAt x f len i) else .int .i64 0)) := hrow
      clear hbel hrow hc hr HB3 HR3
      go_wp2
      go_roundw
      case rel =>
        refine ⟨k + 1, by omega, by go_num, rfl, HBL.out.setCell (by simp) _, (HRW.out.set k _).congr (fun j hj => ?_)⟩
        by_cases e : j = k
        · subst e
          simp only [if_true, if_pos (Nat.lt_succ_self j)]
          rfl
        · by_cases h2 : j < k
          · simp only [if_neg e, if_pos h2, if_pos (show j < k + 1 by omega)]
          · simp only [if_neg e, if_neg h2, if_neg (show ¬ j < k + 1 by omega)]
      case measure => simp [intOf]; omega
    · have hke : k = len := by omega
      subst hke
      clear hr HB3 HR3
      have HB4 : Hid (Below w.heap.size w _) := hbel
      have HR4 : Hid (World.rowIs _ (w.heap.size + 1) 2 k _) := hrow.congr (g := fun i => .int .i64 (fldAt x f k i)) (fun i hi => by simp [hi])
      clear hbel hrow
      go_wp2
      go_ret
      exact ⟨rfl, HB4.out, HR4.out⟩
end Go.Proofs.Qxb6627459a
