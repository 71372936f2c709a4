/-
  The walk of CheckTableName.
-/
import Derived.Test.Qxb6627550aFmtErr
import Derived.Lib.PathFns
namespace Go.Proofs.Qxb6627550aFmt
open Go.RowKit Go.Extern.Stop Go.Stop Go.Extern
set_option linter.unusedVariables false

/-- Is the byte n let at place i? -/
def okN (i n : Nat) : Bool := (decide (97 ≤ n) && decide (n ≤ 122)) || decide (n = 95) || (decide (48 ≤ n) && decide (n ≤ 57) && decide (0 < i))
def okFrom : Nat → List UInt8 → Bool
  | _, [] => true
  | i, c :: r => okN i c.toNat && okFrom (i + 1) r
/-- The byte at place k. -/
def bn (l : List UInt8) (k : Nat) : Nat := (l[k]?.getD 0).toNat
theorem bn_lt (l : List UInt8) (k : Nat) : bn l k < 256 := UInt8.toNat_lt _
theorem drop_bn {l : List UInt8} {k : Nat} (h : k < l.length) (i : Nat) : okFrom i (l.drop k) = (okN i (bn l k) && okFrom (i + 1) (l.drop (k + 1))) := by
  rw [List.drop_eq_getElem_cons h]
  show (okN i l[k].toNat && okFrom (i + 1) (l.drop (k + 1))) = _
  unfold bn
  rw [List.getElem?_eq_getElem h]
  rfl
def okName (l : List UInt8) : Bool := decide (1 ≤ l.length) && decide (l.length ≤ 63) && okFrom 0 l

structure CheckOut (l : List UInt8) (w : World) (e : Ending) (w' : World) : Prop where
  out : (okName l = true ∧ e = .returned .nilIface) ∨ (okName l = false ∧ ∃ x : Value, e = .returned (.iface 30 x))
  below : Below w.heap.size w w'

set_option maxRecDepth 100000 in
set_option maxHeartbeats 1000000 in
theorem check_any (F : Interp) (s : ByteArray) (w : World) (hF : F.answers w.tape) (hs : s.size ≤ 4194304) :
    Calls Tryf.prog 6 #[.string s] w (CheckOut s.data.toList w) := by
  by_cases h0 : 0 < s.size
  case neg =>
    have hnil := Lib.Pa.nil_of_size s h0
    have he : s.toList.isEmpty = true := by rw [Lib.toList_data, hnil]; rfl
    have hv : okName s.data.toList = false := by rw [hnil]; decide
    clear hF
    go_enter Tryf.func6, Tryf.ntmps6
    go_wp2_with fail
    refine (new_any _ w).mono ?_
    rintro e w' ⟨⟨x, rfl⟩, hb⟩
    have HB : Hid (Below w.heap.size w w') := hb
    have HV : Hid (okName s.data.toList = false) := hv
    clear hb hv
    go_wp2
    go_ret
    exact ⟨.inr ⟨HV.out, _, rfl⟩, HB.out⟩
  have hne : s.toList.isEmpty = false := by
    rw [Lib.toList_data, List.isEmpty_eq_false_iff]
    intro e
    rw [Lib.size_eq, e] at h0
    simp at h0
  by_cases h63 : 63 < s.size
  · have h63' : (63 : Int) < s.size := by omega
    have HV : Hid (okName s.data.toList = false) := by
      show _ = _
      unfold okName
      rw [← Lib.size_eq, decide_eq_false (show ¬ s.size ≤ 63 by omega), Bool.and_false, Bool.false_and]
    have HB1 : Hid (Below w.heap.size w (w.alloc (.cells #[.iface 3 (.int .i64 s.size), .iface 3 (.int .i64 63)] 20))) := (Below.refl _ _).alloc (Nat.le_refl _) _
    go_enter Tryf.func6, Tryf.ntmps6
    go_wp2_with fail
    refine (errorfA F s.size _ _ ?hf ?c0 ?c1).mono ?_
    case hf => exact hF
    case c0 => simp
    case c1 => simp
    rintro e w' ⟨⟨x, rfl⟩, hb⟩
    have HB : Hid (Below w.heap.size w w') := HB1.out.trans (hb.mono (by simp))
    clear hb
    go_wp2
    go_ret
    exact ⟨.inr ⟨HV.out, _, rfl⟩, HB.out⟩
  have h63' : ¬ (63 : Int) < s.size := by omega
  have kc := fun (w : World) => run_bytes_of_string (P := Tryf.prog) w 9 28 5 s Tryf.underlying9 Tryf.underlying28 Tryf.underlying5
  have hlen := Lib.size_eq s
  have HO0 : Hid (okName s.data.toList = okFrom 0 (s.data.toList.drop 0)) := by
    show _ = _
    unfold okName
    rw [← Lib.size_eq, decide_eq_true (show 1 ≤ s.size by omega), decide_eq_true (show s.size ≤ 63 by omega), Bool.true_and, Bool.true_and, List.drop_zero]
  have HC : ∀ k, k < s.size → ((w.alloc (.cells (bytesRow s (grownCap w s.size 0 5)) 5 ((bytesRow s (grownCap w s.size 0 5)).size, (bytesRow s (grownCap w s.size 0 5)).size + 1))).drew).cell? ⟨w.heap.size, k, none⟩ = some (.int .u8 (bn s.data.toList k)) := fun k hk => by
    show (w.alloc (.cells (bytesRow s (grownCap w s.size 0 5)) 5 ((bytesRow s (grownCap w s.size 0 5)).size, (bytesRow s (grownCap w s.size 0 5)).size + 1))).cell? ⟨w.heap.size, k, none⟩ = _
    rw [World.cell?_alloc_mark, bytesRow_at s _ k hk]
    have hk2 : k < s.data.toList.length := by omega
    unfold bn
    rw [List.getElem?_eq_getElem hk2]
    simp
  have HB1 : Hid (Below w.heap.size w ((w.alloc (.cells (bytesRow s (grownCap w s.size 0 5)) 5 ((bytesRow s (grownCap w s.size 0 5)).size, (bytesRow s (grownCap w s.size 0 5)).size + 1))).drew)) := ((Below.refl _ _).alloc (Nat.le_refl _) _).drew
  have HLEN : Hid (s.size = s.data.toList.length) := hlen
  clear hlen
  go_enter Tryf.func6, Tryf.ntmps6
  go_wp2
  clear kc
  generalize ((w.alloc (.cells (bytesRow s (grownCap w s.size 0 5)) 5 ((bytesRow s (grownCap w s.size 0 5)).size, (bytesRow s (grownCap w s.size 0 5)).size + 1))).drew) = W1 at *
  have hF1 : F.answers W1.tape := by rw [HB1.out.tape]; exact hF
  have hW1 : w.heap.size ≤ W1.heap.size := HB1.out.size
  go_loop [20] (fun i => ∃ k : Nat, k ≤ s.size ∧ i = .int .i64 k ∧ okName s.data.toList = okFrom k (s.data.toList.drop k)) (fun i => s.size - (RowKit.intOf i).toNat)
  case atStart => exact ⟨0, Nat.zero_le _, rfl, HO0.out⟩
  case round =>
    clear HO0
    obtain ⟨k, hk, rfl, hok⟩ := hrel
    have HO : Hid (okName s.data.toList = okFrom k (s.data.toList.drop k)) := hok
    clear hok
    by_cases hlt : k < s.size
    · have hck := HC k hlt
      have hlt' : (k : Int) < s.size := by omega
      have hkl : k < s.data.toList.length := by rw [← HLEN.out]; exact hlt
      have hb := bn_lt s.data.toList k
      obtain ⟨n, B0⟩ : ∃ n, bn s.data.toList k = n := ⟨_, rfl⟩
      rw [B0] at hck hb
      have BN : Hid (bn s.data.toList k = n) := B0
      clear B0 HC hF
      have hcase : (97 ≤ n ∧ n ≤ 122) ∨ n = 95 ∨ ((48 ≤ n ∧ n ≤ 57) ∧ 0 < k) ∨ ((48 ≤ n ∧ n ≤ 57) ∧ k = 0) ∨ n < 48 ∨ (57 < n ∧ n < 95) ∨ n = 96 ∨ 122 < n := by omega
      rcases hcase with hc | hc | hc | hc | hc | hc | hc | hc
      · have t : ((n : Int) == 95) = false := by rw [beq_eq_false_iff_ne]; omega
        have t1 : (97 : Int) ≤ n := by omega
        have t2 : (n : Int) ≤ 122 := by omega
        have HN : Hid (okName s.data.toList = okFrom (k + 1) (s.data.toList.drop (k + 1))) := by
          show _ = _
          rw [HO.out, drop_bn hkl, show okN k (bn s.data.toList k) = true by rw [BN.out]; simp [okN]; omega, Bool.true_and]
        clear HO
        go_wp2
        go_round
        case rel => exact ⟨k + 1, by omega, by go_num, HN.out⟩
        case measure => simp [RowKit.intOf]; omega
      · have t : ((n : Int) == 95) = true := by rw [beq_iff_eq]; omega
        have t1 : ¬ (97 : Int) ≤ n := by omega
        have HN : Hid (okName s.data.toList = okFrom (k + 1) (s.data.toList.drop (k + 1))) := by
          show _ = _
          rw [HO.out, drop_bn hkl, show okN k (bn s.data.toList k) = true by rw [BN.out]; simp [okN]; omega, Bool.true_and]
        clear HO
        go_wp2
        go_round
        case rel => exact ⟨k + 1, by omega, by go_num, HN.out⟩
        case measure => simp [RowKit.intOf]; omega
      · have t : ((n : Int) == 95) = false := by rw [beq_eq_false_iff_ne]; omega
        have t1 : ¬ (97 : Int) ≤ n := by omega
        have t2 : (48 : Int) ≤ n := by omega
        have t3 : (n : Int) ≤ 57 := by omega
        have t4 : (0 : Int) < k := by omega
        have HN : Hid (okName s.data.toList = okFrom (k + 1) (s.data.toList.drop (k + 1))) := by
          show _ = _
          rw [HO.out, drop_bn hkl, show okN k (bn s.data.toList k) = true by rw [BN.out]; simp [okN]; omega, Bool.true_and]
        clear HO
        go_wp2
        go_round
        case rel => exact ⟨k + 1, by omega, by go_num, HN.out⟩
        case measure => simp [RowKit.intOf]; omega
      · have t : ((n : Int) == 95) = false := by rw [beq_eq_false_iff_ne]; omega
        have t1 : ¬ (97 : Int) ≤ n := by omega
        have t2 : (48 : Int) ≤ n := by omega
        have t3 : (n : Int) ≤ 57 := by omega
        obtain ⟨hc, rfl⟩ := hc
        have HV : Hid (okName s.data.toList = false) := by
          show _ = _
          rw [HO.out, drop_bn hkl, show okN 0 (bn s.data.toList 0) = false by rw [BN.out]; simp [okN]; omega, Bool.false_and]
        have HB2 : Hid (Below w.heap.size w (W1.alloc (.cells #[.iface 9 (.string s)] 20))) := HB1.out.alloc hW1 _
        have hz := HB1.out.size
        clear HO
        go_wp2_with fail
        refine (errorfB F s _ _ ?hf1 ?c1).mono ?_
        case hf1 => exact hF1
        case c1 => simp
        rintro e w' ⟨⟨x, rfl⟩, hb⟩
        have HB : Hid (Below w.heap.size w w') := HB2.out.trans (hb.mono (by simp; omega))
        clear hb
        go_wp2
        go_ret
        exact ⟨.inr ⟨HV.out, _, rfl⟩, HB.out⟩
      · have t : ((n : Int) == 95) = false := by rw [beq_eq_false_iff_ne]; omega
        have t1 : ¬ (97 : Int) ≤ n := by omega
        have t2 : ¬ (48 : Int) ≤ n := by omega
        have HV : Hid (okName s.data.toList = false) := by
          show _ = _
          rw [HO.out, drop_bn hkl, show okN k (bn s.data.toList k) = false by rw [BN.out]; simp [okN]; omega, Bool.false_and]
        have HB2 : Hid (Below w.heap.size w (W1.alloc (.cells #[.iface 9 (.string s)] 20))) := HB1.out.alloc hW1 _
        have hz := HB1.out.size
        clear HO
        go_wp2_with fail
        refine (errorfB F s _ _ ?hf2 ?c2).mono ?_
        case hf2 => exact hF1
        case c2 => simp
        rintro e w' ⟨⟨x, rfl⟩, hb⟩
        have HB : Hid (Below w.heap.size w w') := HB2.out.trans (hb.mono (by simp; omega))
        clear hb
        go_wp2
        go_ret
        exact ⟨.inr ⟨HV.out, _, rfl⟩, HB.out⟩
      · have t : ((n : Int) == 95) = false := by rw [beq_eq_false_iff_ne]; omega
        have t1 : ¬ (97 : Int) ≤ n := by omega
        have t2 : (48 : Int) ≤ n := by omega
        have t3 : ¬ (n : Int) ≤ 57 := by omega
        have HV : Hid (okName s.data.toList = false) := by
          show _ = _
          rw [HO.out, drop_bn hkl, show okN k (bn s.data.toList k) = false by rw [BN.out]; simp [okN]; omega, Bool.false_and]
        have HB2 : Hid (Below w.heap.size w (W1.alloc (.cells #[.iface 9 (.string s)] 20))) := HB1.out.alloc hW1 _
        have hz := HB1.out.size
        clear HO
        go_wp2_with fail
        refine (errorfB F s _ _ ?hf3 ?c3).mono ?_
        case hf3 => exact hF1
        case c3 => simp
        rintro e w' ⟨⟨x, rfl⟩, hb⟩
        have HB : Hid (Below w.heap.size w w') := HB2.out.trans (hb.mono (by simp; omega))
        clear hb
        go_wp2
        go_ret
        exact ⟨.inr ⟨HV.out, _, rfl⟩, HB.out⟩
      · have t : ((n : Int) == 95) = false := by rw [beq_eq_false_iff_ne]; omega
        have t1 : ¬ (97 : Int) ≤ n := by omega
        have t2 : (48 : Int) ≤ n := by omega
        have t3 : ¬ (n : Int) ≤ 57 := by omega
        have HV : Hid (okName s.data.toList = false) := by
          show _ = _
          rw [HO.out, drop_bn hkl, show okN k (bn s.data.toList k) = false by rw [BN.out]; simp [okN]; omega, Bool.false_and]
        have HB2 : Hid (Below w.heap.size w (W1.alloc (.cells #[.iface 9 (.string s)] 20))) := HB1.out.alloc hW1 _
        have hz := HB1.out.size
        clear HO
        go_wp2_with fail
        refine (errorfB F s _ _ ?hf4 ?c4).mono ?_
        case hf4 => exact hF1
        case c4 => simp
        rintro e w' ⟨⟨x, rfl⟩, hb⟩
        have HB : Hid (Below w.heap.size w w') := HB2.out.trans (hb.mono (by simp; omega))
        clear hb
        go_wp2
        go_ret
        exact ⟨.inr ⟨HV.out, _, rfl⟩, HB.out⟩
      · have t : ((n : Int) == 95) = false := by rw [beq_eq_false_iff_ne]; omega
        have t1 : (97 : Int) ≤ n := by omega
        have t0 : ¬ (n : Int) ≤ 122 := by omega
        have t2 : (48 : Int) ≤ n := by omega
        have t3 : ¬ (n : Int) ≤ 57 := by omega
        have HV : Hid (okName s.data.toList = false) := by
          show _ = _
          rw [HO.out, drop_bn hkl, show okN k (bn s.data.toList k) = false by rw [BN.out]; simp [okN]; omega, Bool.false_and]
        have HB2 : Hid (Below w.heap.size w (W1.alloc (.cells #[.iface 9 (.string s)] 20))) := HB1.out.alloc hW1 _
        have hz := HB1.out.size
        clear HO
        go_wp2_with fail
        refine (errorfB F s _ _ ?hf5 ?c5).mono ?_
        case hf5 => exact hF1
        case c5 => simp
        rintro e w' ⟨⟨x, rfl⟩, hb⟩
        have HB : Hid (Below w.heap.size w w') := HB2.out.trans (hb.mono (by simp; omega))
        clear hb
        go_wp2
        go_ret
        exact ⟨.inr ⟨HV.out, _, rfl⟩, HB.out⟩
    · have hke : k = s.size := by omega
      have HV : Hid (okName s.data.toList = true) := by
        show _ = _
        rw [HO.out, List.drop_of_length_le (by rw [← HLEN.out]; omega)]
        rfl
      have hlt' : ¬ (k : Int) < s.size := by omega
      clear HC hF hF1 HO
      go_wp2
      go_ret
      exact ⟨.inl ⟨HV.out, rfl⟩, HB1.out⟩
end Go.Proofs.Qxb6627550aFmt
