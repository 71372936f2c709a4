/-
  The walk of FnNodeFieldsCutAndReassemble.
-/
import Derived.Test.Qxb6627459aCom
namespace Go.Proofs.Qxb6627459a
open Go.ChangeShapes Go.WideShapes Go.ChangeAt Go.RowKit

theorem size22 (w : World) : (sizeOf 22).run Try.prog w = .ok 1 w := by kernel_rfl
theorem elem23 : Try.prog.elem 23 = 22 := by kernel_rfl
theorem und23 : Try.prog.underlying 23 = some (.slice (Try.prog.elem 23)) := by rw [elem23]; exact Try.underlying23
theorem slice_top (a : Option Addr) (len cap c : Nat) (h : c ≤ cap) (W : World) : (Instr.slice 23 (.slice a len cap) none (some (.int .i64 (c : Int))) none).run Try.prog W = .ok (.slice a c cap) W := by
  rw [run_slice_h W 23 a len cap und23 .i64 c (by omega) (by omega), elem23, size22]
  simp only [Result.andThen, sliced]
  have e : (a.map fun x => x.add (0 * 1)) = a := by cases a <;> simp [Addr.add]
  rw [e]
  simp
theorem slice_bot (a : Option Addr) (len cap c : Nat) (h : c ≤ len) (hc : len ≤ cap) : ∃ a2, (∀ W, (Instr.slice 23 (.slice a len cap) (some (.int .i64 (c : Int))) none none).run Try.prog W = .ok (.slice a2 (len - c) (cap - c)) W) ∧ ∀ b off, c < len → a = some ⟨b, off, none⟩ → a2 = some ⟨b, off + c, none⟩ := by
  refine ⟨if cap = c then a else a.map fun x => x.add (c * 1), fun W => ?_, fun b off h1 h2 => ?_⟩
  · rw [run_slice_l W 23 a len cap und23 .i64 c (by omega) (by omega), elem23, size22]
    simp only [Result.andThen, sliced, Int.toNat_natCast]
  · subst h2
    rw [if_neg (by omega)]
    simp [Addr.add]

theorem Widths.top {w : World} {a : Option Addr} {len d : Nat} {f : Nat → Nat} (h : Widths w a len f) (hd : d ≤ len) : Widths w a d f := by
  refine ⟨by have := h.1; omega, fun i hi => h.2.1 i (by omega), fun h0 => ?_⟩
  obtain ⟨b, off, rfl, hc⟩ := h.2.2 (by omega)
  exact ⟨b, off, rfl, fun i hi => hc i (by omega)⟩
theorem Widths.bot {w : World} {a a2 : Option Addr} {len d : Nat} {f : Nat → Nat} (h : Widths w a len f) (hd : d ≤ len) (ha2 : ∀ b off, d < len → a = some ⟨b, off, none⟩ → a2 = some ⟨b, off + d, none⟩) : Widths w a2 (len - d) (fun i => f (d + i)) := by
  refine ⟨by have := h.1; omega, fun i hi => h.2.1 (d + i) (by omega), fun h0 => ?_⟩
  obtain ⟨b, off, rfl, hc⟩ := h.2.2 (by omega)
  exact ⟨b, off + d, ha2 b off (by omega) rfl, fun i hi => by rw [Nat.add_assoc]; exact hc (d + i) (by omega)⟩
theorem sumTo_shift (f : Nat → Nat) (d n : Nat) : sumTo f (d + n) = sumTo f d + sumTo (fun i => f (d + i)) n := by
  induction n with
  | zero => rfl
  | succ n ih =>
    show sumTo f (d + n) + f (d + n) = _ + (_ + f (d + n))
    rw [ih]
    omega
theorem top_same (x : Int) {f : Nat → Nat} {d len i : Nat} (hd : d ≤ len) (hi : i < d) : fldAt (x / 2 ^ (sumTo f len - sumTo f d)) f d i = fldAt x f len i := by
  have h1 := sumTo_mono f (show i + 1 ≤ d by omega)
  have h2 := sumTo_mono f hd
  unfold fldAt
  rw [fld_shift]
  congr 1
  omega
theorem bot_same (x : Int) {f : Nat → Nat} {d len i : Nat} (hd : d ≤ len) : fldAt x (fun i => f (d + i)) (len - d) i = fldAt x f len (d + i) := by
  have h1 := sumTo_shift f d (len - d)
  have h2 := sumTo_shift f d (i + 1)
  rw [show d + (len - d) = len by omega] at h1
  unfold fldAt
  rw [← Nat.add_assoc] at h2
  congr 1
  omega

set_option maxRecDepth 100000 in
set_option maxHeartbeats 2000000 in
theorem cut_walk (x0 x1 x2 x4 x : Int) (c : Int) (a : Option Addr) (len cap : Nat) (f : Nat → Nat) (w : World) (hr : Widths w a len f) (hlc : len ≤ cap) :
    Calls Try.prog 3 #[.int .i64 x0, .int .i64 x1, .int .u64 x2, .slice a len cap, .int .u64 x4, .int .i64 x, .int .i64 c] w (TrueOut w) := by
  have hmx := hr.1
  go_enter Try.func3, Try.ntmps3
  go_wp2_with fail
  refine (bytes_cut x0 x1 x2 x4 x c a len cap w hr.1).mono ?_
  rintro e w' ⟨rfl, rfl⟩
  unfold maxLen at hmx
  by_cases h1 : len ≤ 1048576
  case neg =>
    rw [decide_eq_false h1]
    go_wp2
    go_ret
    exact ⟨rfl, Below.refl _ _⟩
  rw [decide_eq_true h1]
  by_cases h2 : 65536 < len
  · have h2' : (65536 : Int) < len := by omega
    go_wp2
    go_ret
    exact ⟨rfl, Below.refl _ _⟩
  have h2' : ¬ (65536 : Int) < len := by omega
  go_wp2_with fail
  refine (sum_any a len cap f w hr).mono ?_
  rintro e w' ⟨he | ⟨hs, he⟩, rfl⟩
  · subst he
    go_wp2
    go_ret
    exact ⟨rfl, Below.refl _ _⟩
  subst he
  have hlen : len ≤ 65536 := by omega
  by_cases h3 : c < 0
  · go_wp2
    go_ret
    exact ⟨rfl, Below.refl _ _⟩
  by_cases h4 : (len : Int) < c
  · have h3' : decide (c < 0) = false := decide_eq_false h3
    go_wp2
    go_ret
    exact ⟨rfl, Below.refl _ _⟩
  obtain ⟨d, rfl⟩ := Int.eq_ofNat_of_zero_le (show 0 ≤ c by omega)
  have hd : d ≤ len := by omega
  have h4' : ¬ (len : Int) < (d : Int) := by omega
  have h3' : ¬ (d : Int) < 0 := by omega
  clear h3 h4
  have HB1 : Below w.heap.size w (w.alloc (.cells #[.int .i64 x0, .int .i64 x1, .int .u64 x2, .slice a len cap, .int .u64 x4] 29)) := (Below.refl _ _).alloc (Nat.le_refl _) _
  go_wp2_with fail
  refine (fields_any x0 x1 x2 x4 x a len cap f _ (hr.below HB1) hs hlen).mono ?_
  rintro e w3 ⟨rfl, hb3, hr3⟩
  have HB3 := HB1.trans (hb3.mono (by simp))
  rw [World.size_alloc] at hr3
  clear hb3 HB1
  go_wp2
  go_loop [19, 20] (fun r i => ∃ k : Nat, k ≤ len ∧ i = .int .i64 k ∧ r = .int .u64 (back x (sumTo f len) (sumTo f k))) (fun _ i => len - (intOf i).toNat)
  case atStart => exact ⟨0, Nat.zero_le _, rfl, by rw [show sumTo f 0 = 0 from rfl, back_zero]⟩
  case round =>
    obtain ⟨k, hk, rfl, rfl⟩ := hrel
    by_cases hlt : k < len
    · obtain ⟨b, off, rfl, hc⟩ := (hr.below HB3).2.2 (by omega)
      have hck := hc k hlt
      have ca := hr3.cell hlt
      have hst := sum_step hlt hs
      have hk1 : (k : Int) < len := by omega
      have hf64 := hst.1
      have HBK : Hid (bits .or .u64 (IntKind.u64.wrap (back x (sumTo f len) (sumTo f k) * 2 ^ f k)) (IntKind.u64.wrap (fldAt x f len k)) = back x (sumTo f len) (sumTo f (k + 1))) := by
        have := back_step x (S := sumTo f len) (s := sumTo f k) (b := f k) (by omega) hs
        rw [← hst.2.2.1] at this
        exact this
      have HBD : f k < 64 → 0 ≤ fldAt x f len k ∧ IntKind.u64.wrap (fldAt x f len k) ≤ maskU (f k) := fun h => ⟨(fld_bd x h).1, u64_fld_le x (by omega)⟩
      clear hc hr hr3 hst HB3
      by_cases hb : f k < 64
      · obtain ⟨a0, a1⟩ := HBD hb
        have hb' : (f k : Int) < 64 := by omega
        clear HBD
        generalize fldAt x f len k = A at *
        generalize back x (sumTo f len) (sumTo f k) = R at *
        go_wp2_with (go_at_call 8; refine (mask_any (f k) _ hf64).mono ?_; rintro e w' ⟨rfl, rfl⟩)
        go_round
        case rel => exact ⟨k + 1, by omega, by go_num, by rw [← HBK.out]⟩
        case measure => simp [intOf]; omega
      · clear HBD
        have hb' : ¬ (f k : Int) < 64 := by omega
        generalize fldAt x f len k = A at *
        generalize back x (sumTo f len) (sumTo f k) = R at *
        go_wp2
        go_round
        case rel => exact ⟨k + 1, by omega, by go_num, by rw [← HBK.out]⟩
        case measure => simp [intOf]; omega
    · have hke : k = len := by omega
      subst hke
      have hk1 : ¬ (k : Int) < k := by omega
      have HL := back_last x hs
      go_wp2_with (go_at_call 8; refine (mask_any (sumTo f k) _ hs).mono ?_; rintro e w' ⟨rfl, rfl⟩)
      clear HL
      go_loop [23, 24] (fun r i => ∃ j : Nat, d ≤ j ∧ j ≤ k ∧ i = .int .i64 j ∧ r = .int .u64 (sumTo f j - sumTo f d : Nat)) (fun _ i => k - (intOf i).toNat)
      case atStart => exact ⟨d, Nat.le_refl _, hd, rfl, by rw [Nat.sub_self]; rfl⟩
      case round =>
        obtain ⟨j, hj1, hj2, rfl, rfl⟩ := hrel
        by_cases hlt : j < k
        · obtain ⟨b, off, rfl, hc⟩ := (hr.below HB3).2.2 (by omega)
          have hck := hc j hlt
          have hst := sum_step hlt hs
          have hm := sumTo_mono f hj1
          have HS : Hid ((sumTo f (j + 1) - sumTo f d : Nat) = ((sumTo f j - sumTo f d : Nat) + f j)) := by show _ = _; omega
          have hb1 : (sumTo f j - sumTo f d : Nat) + f j ≤ 64 := by omega
          generalize (sumTo f j - sumTo f d : Nat) = T at *
          clear hc hr hr3 hst HB3 hm
          go_wp2
          go_round
          case rel => exact ⟨j + 1, by omega, by omega, by go_num, by rw [HS.out]; go_num⟩
          case measure => simp [intOf]; omega
        · have hje : j = k := by omega
          subst hje
          have hs1 := slice_top a j cap d (by omega)
          obtain ⟨a2, hs2, ha2⟩ := slice_bot a j cap d (by omega) hlc
          have hS : (sumTo f j - sumTo f d : Nat) ≤ 64 := by omega
          have hz3 := HB3.size
          have HB4 : Below w.heap.size w ((w'.alloc (.cells #[.int .i64 x0, .int .i64 x1, .int .u64 x2, .slice a d cap, .int .u64 x4] 29)).alloc (.cells #[.int .i64 x0, .int .i64 x1, .int .u64 x2, .slice a2 (j - d) (cap - d), .int .u64 x4] 29)) := (HB3.alloc hz3 _).alloc (by simp; omega) _
          have HL4 := LayAt.made (w'.alloc (.cells #[.int .i64 x0, .int .i64 x1, .int .u64 x2, .slice a d cap, .int .u64 x4] 29)) x0 x1 x2 x4 (.slice a2 (j - d) (cap - d))
          rw [World.size_alloc] at HL4
          have hr4 := (hr3.alloc (.cells #[.int .i64 x0, .int .i64 x1, .int .u64 x2, .slice a d cap, .int .u64 x4] 29)).alloc (.cells #[.int .i64 x0, .int .i64 x1, .int .u64 x2, .slice a2 (j - d) (cap - d), .int .u64 x4] 29)
          have hrl := hr3.lt
          have hm := sumTo_mono f hj1
          have hsh := sumTo_shift f d (j - d)
          rw [show d + (j - d) = j by omega] at hsh
          have hsg : sumTo (fun i => f (d + i)) (j - d) ≤ 64 := by omega
          clear hsh
          go_wp2_with fail
          refine (fields_any x0 x1 x2 x4 (x / 2 ^ (sumTo f j - sumTo f d)) a d cap f _ ((hr.below HB4).top hd) (by omega) (by omega)).mono ?_
          rintro e w5 ⟨rfl, hb5, hr5⟩
          have HB5 := HB4.trans (hb5.mono (by simp; omega))
          obtain ⟨c0, c1, c2, c3, c4⟩ := HL4.below hb5 (by simp)
          have hr45 := hr4.of_block (hb5.block _ (by simp; omega))
          rw [World.size_alloc, World.size_alloc] at hr5
          have hz5 := hr5.lt
          have hr55 := hr5.congr (g := fun i => .int .i64 (fldAt x f j i)) (fun i hi => by rw [top_same x hd hi])
          clear HB4 HL4 hr4 hb5 hr5 hs1 hs2
          go_wp2_with fail
          refine (fields_any x0 x1 x2 x4 x a2 (j - d) (cap - d) (fun i => f (d + i)) w5 ((hr.below HB5).bot hd ha2) hsg (by omega)).mono ?_
          rintro e w6 ⟨rfl, hb6, hr6⟩
          have HB6 := HB5.trans (hb6.mono (by have := HB5.size; omega))
          have hr46 := hr45.of_block (hb6.block _ (by omega))
          have hr56 := hr55.of_block (hb6.block _ hz5)
          have hr66 := hr6.congr (g := fun i => .int .i64 (fldAt x f j (d + i))) (fun i hi => by rw [bot_same x hd])
          clear HB5 hr45 hr55 hb6 hr6 c0 c1 c2 c3 c4 ha2 hr hr3 HB3
          have hne : ((j - d : Nat) : Int) = (j : Int) - d := by omega
          go_wp2
          clear hne
          go_loopw [29] (fun i wr => ∃ k : Nat, k ≤ d ∧ i = .int .i64 k ∧ ∃ n, wr = w6.drewN n) (fun i _ => d - (intOf i).toNat)
          case atStart => exact ⟨0, Nat.zero_le _, rfl, 0, rfl⟩
          case round =>
            obtain ⟨k, hk, rfl, n, rfl⟩ := hrel
            by_cases hlt : k < d
            · have ca := hr46.cell (show k < j by omega)
              have ct := hr56.cell hlt
              have hk1 : (k : Int) < d := by omega
              have hk2 : (k : Int) < j := by omega
              clear hr46 hr56 hr66 HB6
              generalize fldAt x f j k = A at *
              go_wp2
              go_quiet (fail)
              go_wp2
              go_roundw
              case rel => exact ⟨k + 1, by omega, by go_num, _, rfl⟩
              case measure => simp [intOf]; omega
            · have hk1 : ¬ (k : Int) < d := by omega
              go_wp2
              go_loopw [30] (fun i wr => ∃ k : Nat, k ≤ j - d ∧ i = .int .i64 k ∧ ∃ n, wr = w6.drewN n) (fun i _ => (j - d) - (intOf i).toNat)
              case atStart => exact ⟨0, Nat.zero_le _, rfl, n, rfl⟩
              case round =>
                clear hk1
                obtain ⟨k, hk, rfl, n, rfl⟩ := hrel
                by_cases hlt : k < j - d
                · have ca := hr46.cell (show d + k < j by omega)
                  have ct := hr66.cell hlt
                  have hk1 : (k : Int) < ((j - d : Nat) : Int) := by omega
                  have hk2 : (d : Int) + k < j := by omega
                  clear hr46 hr56 hr66 HB6
                  generalize fldAt x f j (d + k) = A at *
                  go_wp2
                  go_quiet (fail)
                  go_wp2
                  go_roundw
                  case rel => exact ⟨k + 1, by omega, by go_num, _, rfl⟩
                  case measure => simp [intOf]; omega
                · have hk1 : ¬ (k : Int) < ((j - d : Nat) : Int) := by omega
                  have HB7 : Hid (Below w.heap.size w w6) := HB6
                  clear hr46 hr56 hr66 HB6
                  go_wp2
                  go_ret
                  exact ⟨rfl, ⟨HB7.out.os, HB7.out.tape, HB7.out.output, HB7.out.size, HB7.out.block⟩⟩
end Go.Proofs.Qxb6627459a
