/-
  The walk of FnNodeFieldsComplementAndHighBits.
-/
import Derived.Test.Qxb6627459aBits
import Derived.Deep.RegionWith
namespace Go.Proofs.Qxb6627459a
open Go.ChangeShapes Go.WideShapes Go.ChangeAt Go.RowKit

structure TrueOut (w : World) (e : Ending) (w' : World) : Prop where
  out : e = .returned (.bool true)
  below : Below w.heap.size w w'

/-- The five cells of a layout that lies in block N. -/
def LayAt (W : World) (N : Nat) (x0 x1 x2 x4 : Int) (s : Value) : Prop :=
  W.cell? ⟨N, 0, none⟩ = some (.int .i64 x0) ∧ W.cell? ⟨N, 1, none⟩ = some (.int .i64 x1) ∧ W.cell? ⟨N, 2, none⟩ = some (.int .u64 x2) ∧ W.cell? ⟨N, 3, none⟩ = some s ∧ W.cell? ⟨N, 4, none⟩ = some (.int .u64 x4)
theorem LayAt.below {W W' : World} {B N : Nat} {x0 x1 x2 x4 : Int} {s : Value} (h : LayAt W N x0 x1 x2 x4 s) (hb : Below B W W') (hN : N < B) : LayAt W' N x0 x1 x2 x4 s := by
  obtain ⟨h0, h1, h2, h3, h4⟩ := h
  exact ⟨by rw [hb.cell (p := ⟨N, 0, none⟩) hN]; exact h0, by rw [hb.cell (p := ⟨N, 1, none⟩) hN]; exact h1, by rw [hb.cell (p := ⟨N, 2, none⟩) hN]; exact h2, by rw [hb.cell (p := ⟨N, 3, none⟩) hN]; exact h3, by rw [hb.cell (p := ⟨N, 4, none⟩) hN]; exact h4⟩
theorem LayAt.made (w : World) (x0 x1 x2 x4 : Int) (s : Value) : LayAt (w.alloc (.cells #[.int .i64 x0, .int .i64 x1, .int .u64 x2, s, .int .u64 x4] 29)) w.heap.size x0 x1 x2 x4 s := by
  refine ⟨?_, ?_, ?_, ?_, ?_⟩ <;> (rw [World.cell?_alloc_new]; rfl)

theorem sum_step {f : Nat → Nat} {len k : Nat} (h : k < len) (hs : sumTo f len ≤ 64) : f k ≤ 64 ∧ sumTo f len - sumTo f (k + 1) + f k ≤ sumTo f len ∧ sumTo f (k + 1) = sumTo f k + f k ∧ sumTo f (k + 1) ≤ sumTo f len := by
  have h1 := sumTo_mono f (show k + 1 ≤ len by omega)
  have h2 : sumTo f (k + 1) = sumTo f k + f k := rfl
  omega

set_option maxRecDepth 100000 in
set_option maxHeartbeats 2000000 in
theorem com_walk (x0 x1 x2 x4 x : Int) (a : Option Addr) (len cap : Nat) (f : Nat → Nat) (w : World) (hr : Widths w a len f) (hx : -9223372036854775808 ≤ x ∧ x ≤ 9223372036854775807) :
    Calls Try.prog 4 #[.int .i64 x0, .int .i64 x1, .int .u64 x2, .slice a len cap, .int .u64 x4, .int .i64 x] w (TrueOut w) := by
  have hmx := hr.1
  go_enter Try.func4, Try.ntmps4
  go_wp2_with fail
  refine (bytes_com x0 x1 x2 x4 x a len cap w hr.1).mono ?_
  rintro e w' ⟨rfl, rfl⟩
  unfold maxLen at hmx
  by_cases h1 : len ≤ 1048576
  case neg =>
    rw [decide_eq_false h1]
    go_wp2
    go_ret
    exact ⟨rfl, Below.refl _ _⟩
  rw [decide_eq_true h1]
  by_cases h2 : 65536 < len
  · have h2' : (65536 : Int) < len := by omega
    go_wp2
    go_ret
    exact ⟨rfl, Below.refl _ _⟩
  have h2' : ¬ (65536 : Int) < len := by omega
  go_wp2_with fail
  refine (sum_any a len cap f w hr).mono ?_
  rintro e w' ⟨he | ⟨hs, he⟩, rfl⟩
  · subst he
    go_wp2
    go_ret
    exact ⟨rfl, Below.refl _ _⟩
  subst he
  have hlen : len ≤ 65536 := by omega
  have HB1 : Below w.heap.size w (w.alloc (.cells #[.int .i64 x0, .int .i64 x1, .int .u64 x2, .slice a len cap, .int .u64 x4] 29)) := (Below.refl _ _).alloc (Nat.le_refl _) _
  have HL1 := LayAt.made w x0 x1 x2 x4 (.slice a len cap)
  go_wp2_with fail
  refine (wbits_any x0 x1 x2 x4 a len cap f _ (hr.below HB1) hs).mono ?_
  rintro e w2 ⟨rfl, hb2⟩
  have HB2 := HB1.trans (hb2.mono (by simp))
  obtain ⟨c0, c1, c2, c3, c4⟩ := HL1.below hb2 (by simp)
  have HL2 : Hid (LayAt w2 w.heap.size x0 x1 x2 x4 (.slice a len cap)) := HL1.below hb2 (by simp)
  have hz2 : w.heap.size < w2.heap.size := by have := hb2.size; simp at this; omega
  clear hb2 HB1 HL1
  go_wp2_with fail
  refine (fields_any x0 x1 x2 x4 x a len cap f w2 (hr.below HB2) hs hlen).mono ?_
  rintro e w3 ⟨rfl, hb3, hr3⟩
  clear c0 c1 c2 c3 c4
  have HB3 := HB2.trans (hb3.mono (by omega))
  obtain ⟨c0, c1, c2, c3, c4⟩ := HL2.out.below hb3 hz2
  have HL3 : Hid (LayAt w3 w.heap.size x0 x1 x2 x4 (.slice a len cap)) := HL2.out.below hb3 hz2
  have hz3 : w2.heap.size + 1 < w3.heap.size := hr3.lt
  clear hb3 HB2 HL2
  have hsg : IntKind.i64.signed = true := rfl
  have hcm := compl_i64 x hx
  clear hx
  go_wp2_with fail
  refine (fields_any x0 x1 x2 x4 (-x - 1) a len cap f w3 (hr.below HB3) hs hlen).mono ?_
  rintro e w4 ⟨rfl, hb4, hr4⟩
  clear c0 c1 c2 c3 c4 hcm
  have HB4 := HB3.trans (hb4.mono (by omega))
  obtain ⟨c0, c1, c2, c3, c4⟩ := HL3.out.below hb4 (by omega)
  have hr34 := hr3.of_block (hb4.block _ hz3)
  have hz4 : w3.heap.size + 1 < w4.heap.size := hr4.lt
  clear hb4 HB3 HL3 hr3
  go_wp2_with fail
  have HBD := HB4.drew
  go_region_with (first | (go_at_call 8; refine (mask_any (sumTo f len) _ hs).mono ?_; rintro e w' ⟨rfl, rfl⟩) | (go_at_call 7; refine (fields_any x0 x1 x2 x4 _ a len cap f _ ?_ hs hlen).mono ?_; exact hr.below HBD; rintro e w5 ⟨rfl, hb5, hr5⟩))
  all_goals
    have HB5 := HBD.trans (hb5.mono (by simp; omega))
    have hr35 := hr34.of_block (hb5.block _ (by simp; omega))
    have hr45 := hr4.of_block (hb5.block _ (by simp; omega))
    have hr55 := hr5.congr (g := fun i => .int .i64 (fldAt x f len i)) (fun i hi => by
      have hst := sum_step hi hs
      rw [i64_wrap]
      unfold fldAt
      rw [fld_low x hst.2.1 hs])
    clear hb5 HBD HB4 hr34 hr4 hr5 c0 c1 c2 c3 c4
    go_wp2
    go_loopw [20] (fun i wr => ∃ k : Nat, k ≤ len ∧ i = .int .i64 k ∧ ∃ n, wr = w5.drewN n) (fun i _ => len - (intOf i).toNat)
    case atStart => exact ⟨0, Nat.zero_le _, rfl, 0, rfl⟩
    case round =>
      obtain ⟨k, hk, rfl, n, rfl⟩ := hrel
      by_cases hlt : k < len
      · obtain ⟨b, off, rfl, hc⟩ := (hr.below HB5).2.2 (by omega)
        have hck := hc k hlt
        have ca := hr35.cell hlt
        have cc := hr45.cell hlt
        have cm : w5.cell? ⟨w4.heap.size + 1, k, none⟩ = some (.int .i64 (fldAt x f len k)) := hr55.cell hlt
        have hst := sum_step hlt hs
        have hxor : bits .xor .i64 (fldAt x f len k) (fldAt (-x - 1) f len k) = wrap64 (maskU (f k)) := fld_xor x hst.1
        have hk1 : (k : Int) < len := by omega
        have hf64 := hst.1
        have HBD : f k < 64 → (0 ≤ fldAt x f len k ∧ fldAt x f len k ≤ maskU (f k)) ∧ wrap64 (maskU (f k)) = maskU (f k) := fun h => ⟨fld_bd x h, mask_i64 h⟩
        have HB6 : Hid (Below w.heap.size w w5) := HB5
        clear hc hr hr35 hr45 hr55 hst hs HB5
        generalize fldAt x f len k = A at *
        generalize fldAt (-x - 1) f len k = C at *
        go_wp2_with (go_at_call 8; refine (mask_any (f k) _ hf64).mono ?_; rintro e w' ⟨rfl, rfl⟩)
        by_cases hb : f k < 64
        · obtain ⟨⟨a0, a1⟩, a2⟩ := HBD hb
          have hb' : (f k : Int) < 64 := by omega
          clear HBD
          generalize wrap64 (maskU (f k)) = mk at *
          subst a2
          go_quiet (fail)
          go_wp2
          go_quiet (fail)
          go_wp2
          go_roundw
          case rel => exact ⟨k + 1, by omega, by go_num, _, rfl⟩
          case measure => simp [intOf]; omega
        · clear HBD
          have hb' : ¬ (f k : Int) < 64 := by omega
          generalize wrap64 (maskU (f k)) = mk at *
          go_quiet (fail)
          go_wp2
          go_quiet (fail)
          go_wp2
          go_roundw
          case rel => exact ⟨k + 1, by omega, by go_num, _, rfl⟩
          case measure => simp [intOf]; omega
      · have hk1 : ¬ (k : Int) < len := by omega
        clear hr35 hr45 hr55 hr
        have HB6 : Hid (Below w.heap.size w w5) := HB5
        clear HB5
        go_wp2
        go_ret
        exact ⟨rfl, ⟨HB6.out.os, HB6.out.tape, HB6.out.output, HB6.out.size, HB6.out.block⟩⟩
end Go.Proofs.Qxb6627459a
