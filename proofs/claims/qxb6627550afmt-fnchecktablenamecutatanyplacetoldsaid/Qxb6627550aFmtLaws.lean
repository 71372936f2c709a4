/-
  The walks of the two laws.
-/
import Derived.Test.Qxb6627550aFmtModel
import Derived.Deep.QuietTactic
import Derived.BigQuiet
namespace Go.Proofs.Qxb6627550aFmt
open Go.RowKit Go.Extern.Stop Go.Stop Go.Extern
set_option linter.unusedVariables false

structure TrueOut (w : World) (e : Ending) (w' : World) : Prop where
  out : e = .returned (.bool true)
  below : Below w.heap.size w w'

theorem model_same (s : ByteArray) (w : World) (hs : s.size ≤ 4194304) (b : Bool) (hb : okName s.data.toList = b) :
    Calls Tryf.prog 7 #[.string s] w fun e w' => e = .returned (.bool b) ∧ w' = w :=
  (model_any s w hs).mono fun e w' h => ⟨by rw [h.1, hb], h.2.symm⟩

set_option maxRecDepth 100000 in
set_option maxHeartbeats 1000000 in
theorem model_walk (F : Interp) (s : ByteArray) (w : World) (hF : F.answers w.tape) (hs : s.size ≤ maxLen) :
    Calls Tryf.prog 3 #[.string s] w (TrueOut w) := by
  go_enter Tryf.func3, Tryf.ntmps3
  go_wp2_with fail
  refine (bytes3 s w hs).mono ?_
  rintro e w' ⟨rfl, rfl⟩
  by_cases h : s.size ≤ 1048576
  case neg =>
    rw [decide_eq_false h]
    clear hF
    go_wp2
    go_ret
    exact ⟨rfl, Below.refl _ _⟩
  rw [decide_eq_true h]
  have h1 : ¬ (1048576 : Int) < s.size := by omega
  have HF : Hid (F.answers w.tape) := hF
  clear hF
  go_wp2_with fail
  refine (check_any F s w HF.out (by omega)).mono ?_
  rintro e w2 ⟨hout, hb⟩
  have HB : Hid (Below w.heap.size w w2) := hb
  have hm : s.size ≤ 4194304 := by omega
  clear hb HF hs h1
  rcases hout with ⟨hv, rfl⟩ | ⟨hv, x, rfl⟩
  · have HM : ∀ w, Calls Tryf.prog 7 #[.string s] w fun e w' => e = .returned (.bool true) ∧ w' = w := fun w => model_same s w hm true hv
    clear hv
    go_wp2
    go_quiet ((go_at_call 7; exact Calls.quiet_of_same (HM _)))
    go_wp2
    go_ret
    exact ⟨rfl, ⟨HB.out.os, HB.out.tape, HB.out.output, HB.out.size, HB.out.block⟩⟩
  · have HM : ∀ w, Calls Tryf.prog 7 #[.string s] w fun e w' => e = .returned (.bool false) ∧ w' = w := fun w => model_same s w hm false hv
    clear hv
    go_wp2
    go_quiet ((go_at_call 7; exact Calls.quiet_of_same (HM _)))
    go_wp2
    go_ret
    exact ⟨rfl, ⟨HB.out.os, HB.out.tape, HB.out.output, HB.out.size, HB.out.block⟩⟩
/-! ### The plain law of the cut -/
theorem bn_take {l : List UInt8} {k j : Nat} (h : j < k) : bn (l.take k) j = bn l j := by
  unfold bn
  rw [List.getElem?_take, if_pos h]
theorem bn_cons_zero (c : UInt8) (r : List UInt8) : bn (c :: r) 0 = c.toNat := rfl
theorem bn_cons_drop (c : UInt8) (l : List UInt8) (k j : Nat) : bn (c :: l.drop k) (j + 1) = bn l (k + j) := by
  unfold bn
  rw [List.getElem?_cons_succ, List.getElem?_drop]
theorem cut_law {l : List UInt8} {k : Nat} (h1 : 1 ≤ k) (h2 : k ≤ l.length) : okName l = (decide (l.length ≤ 63) && okName (l.take k) && okName (95 :: l.drop k)) := by
  rw [Bool.eq_iff_iff, Bool.and_eq_true, Bool.and_eq_true, decide_eq_true_eq, okName_iff, okName_iff, okName_iff]
  have ht : (l.take k).length = k := by rw [List.length_take]; omega
  have hd : (95 :: l.drop k).length = l.length - k + 1 := by rw [List.length_cons, List.length_drop]
  rw [ht, hd]
  constructor
  · rintro ⟨h3, h4, h5⟩
    refine ⟨⟨h4, h1, by omega, fun j hj => ?_⟩, by omega, by omega, fun j hj => ?_⟩
    · rw [bn_take hj]
      exact h5 j (by omega)
    · cases j with
      | zero => rw [bn_cons_zero]; decide
      | succ j =>
        rw [bn_cons_drop, okN_pos (by omega)]
        have := h5 (k + j) (by omega)
        rw [okN_pos (by omega)] at this
        exact this
  · rintro ⟨⟨h3, h4, h5, h6⟩, h7, h8, h9⟩
    refine ⟨by omega, h3, fun j hj => ?_⟩
    rcases Nat.lt_or_ge j k with h10 | h10
    · have := h6 j h10
      rw [bn_take h10] at this
      exact this
    · have := h9 (j - k + 1) (by omega)
      rw [bn_cons_drop, okN_pos (by omega), show k + (j - k) = j by omega] at this
      rw [okN_pos (by omega)]
      exact this
theorem digit_law (r : List UInt8) : okName (48 :: r) = false := by
  rw [Bool.eq_false_iff]
  intro h
  have := ((okName_iff _).1 h).2.2 0 (by simp)
  rw [bn_cons_zero] at this
  exact absurd this (by decide)

theorem head_data (s : ByteArray) (k : Nat) : (s.extract 0 k).data.toList = s.data.toList.take k := Lib.Pa.extract_upto_list s k
theorem tail_data (c : UInt8) (s : ByteArray) (k : Nat) : ({ data := #[c] } ++ s.extract k s.size).data.toList = c :: s.data.toList.drop k := by
  rw [ByteArray.data_append, Array.toList_append, Lib.extract_data, List.take_of_length_le (by rw [List.length_drop, ← Lib.size_eq]; omega)]
  rfl

theorem check2 (F : Interp) (s : ByteArray) (w : World) (hF : F.answers w.tape) (hs : s.size ≤ 4194304) :
    Calls Tryf.prog 6 #[.string s] w fun e w' => (Hid (okName s.data.toList = true) ∧ e = .returned .nilIface ∧ Below w.heap.size w w') ∨ (Hid (okName s.data.toList = false) ∧ (∃ x : Value, e = .returned (.iface 30 x)) ∧ Below w.heap.size w w') :=
  (check_any F s w hF hs).mono fun e w' h => by
    rcases h.out with ⟨h1, h2⟩ | ⟨h1, h2⟩
    · exact .inl ⟨h1, h2, h.below⟩
    · exact .inr ⟨h1, h2, h.below⟩
theorem digit_any (F : Interp) (s : ByteArray) (w : World) (hF : F.answers w.tape) (hs : s.size ≤ 4194304) (hn : okName s.data.toList = false) :
    Calls Tryf.prog 6 #[.string s] w (ErrOut w) :=
  (check_any F s w hF hs).mono fun e w' h => by
    rcases h.out with ⟨h1, h2⟩ | ⟨h1, h2⟩
    · rw [hn] at h1; exact absurd h1 (by decide)
    · exact ⟨h2, h.below⟩

set_option maxRecDepth 100000 in
set_option maxHeartbeats 2000000 in
theorem cut_walk (F : Interp) (s : ByteArray) (k : Int) (w : World) (hF : F.answers w.tape) (hs : s.size ≤ maxLen) :
    Calls Tryf.prog 4 #[.string s, .int .i64 k] w (TrueOut w) := by
  go_enter Tryf.func4, Tryf.ntmps4
  go_wp2_with fail
  refine (bytes4 s k w hs).mono ?_
  rintro e w' ⟨rfl, rfl⟩
  have HF : Hid (F.answers w.tape) := hF
  clear hF
  by_cases h : s.size ≤ 1048576
  case neg =>
    rw [decide_eq_false h]
    go_wp2
    go_ret
    exact ⟨rfl, Below.refl _ _⟩
  rw [decide_eq_true h]
  have h1 : ¬ (1048576 : Int) < s.size := by omega
  by_cases hk1 : k < 1
  · go_wp2
    go_ret
    exact ⟨rfl, Below.refl _ _⟩
  by_cases hk2 : (s.size : Int) < k
  · have hk1' : decide (k < 1) = false := decide_eq_false hk1
    go_wp2
    go_ret
    exact ⟨rfl, Below.refl _ _⟩
  obtain ⟨m, rfl⟩ := Int.eq_ofNat_of_zero_le (show 0 ≤ k by omega)
  have hm1 : 1 ≤ m := by omega
  have hm2 : m ≤ s.size := by omega
  have hk1' : ¬ (m : Int) < 1 := by omega
  have hk2' : ¬ (s.size : Int) < m := by omega
  have hk0 : (0 : Int) ≤ m := by omega
  clear hk1 hk2 hs
  have HL : Hid (okName s.data.toList = (decide (s.size ≤ 63) && okName (s.data.toList.take m) && okName (95 :: s.data.toList.drop m))) := by
    show _ = _
    rw [Lib.size_eq]
    exact cut_law hm1 (by rw [← Lib.size_eq]; exact hm2)
  go_wp2_with fail
  refine (check2 F s w HF.out (by omega)).mono ?_
  rintro e w2 (⟨HA, rfl, hb2⟩ | ⟨HA, ⟨xA, rfl⟩, hb2⟩)
  all_goals
    have HB2 : Hid (Below w.heap.size w w2) := hb2
    have HF2 : Hid (F.answers w2.tape) := by show F.answers w2.tape; rw [hb2.tape]; exact HF.out
    clear hb2
    go_wp2_with fail
    refine (check2 F _ w2 HF2.out (by rw [ByteArray.size_extract]; omega)).mono ?_
    rintro e w3 (⟨HH, rfl, hb3⟩ | ⟨HH, ⟨xH, rfl⟩, hb3⟩)
  all_goals
    have HB3 : Hid (Below w.heap.size w w3) := HB2.out.trans (hb3.mono HB2.out.size)
    have HF3 : Hid (F.answers w3.tape) := by show F.answers w3.tape; rw [hb3.tape]; exact HF2.out
    clear hb3
    go_wp2_with fail
    refine (check2 F _ w3 HF3.out (by rw [ByteArray.size_append, ByteArray.size_extract]; show 1 + _ ≤ _; omega)).mono ?_
    rintro e w4 (⟨HR, rfl, hb4⟩ | ⟨HR, ⟨xR, rfl⟩, hb4⟩)
  all_goals
    have HB4 : Hid (Below w.heap.size w w4) := HB3.out.trans (hb4.mono HB3.out.size)
    have HF4 : Hid (F.answers w4.tape) := by show F.answers w4.tape; rw [hb4.tape]; exact HF3.out
    clear hb4
    have hHH := HH.out
    rw [head_data] at hHH
    have hHR := HR.out
    rw [tail_data] at hHR
    have hlaw := HL.out
    rw [HA.out, hHH, hHR] at hlaw
    have HLW : Hid (_ = _) := hlaw
    clear hlaw hHH hHR HH HR HL
    go_wp2_with fail
    refine (digit_any F _ w4 HF4.out (by rw [ByteArray.size_append, ByteArray.size_extract]; show 1 + _ ≤ _; omega) (by rw [tail_data]; exact digit_law _)).mono ?_
    rintro e w5 ⟨⟨xD, rfl⟩, hb5⟩
    have HB5 : Hid (Below w.heap.size w w5) := HB4.out.trans (hb5.mono HB4.out.size)
    clear hb5
    have h63 : ((s.size : Int) ≤ 63 ∧ s.size ≤ 63) ∨ (¬ (s.size : Int) ≤ 63 ∧ ¬ s.size ≤ 63) := by omega
    rcases h63 with ⟨h63, h63'⟩ | ⟨h63, h63'⟩
  all_goals
    have hlaw := HLW.out
    first
      | (exfalso; simp [h63'] at hlaw; done)
      | (clear hlaw HLW
         go_wp2
         go_ret
         exact ⟨rfl, HB5.out⟩)
end Go.Proofs.Qxb6627550aFmt
