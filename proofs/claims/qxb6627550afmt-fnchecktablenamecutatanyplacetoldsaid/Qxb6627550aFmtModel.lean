/-
  The walks of zzNameIn, zzNameModel, zzBytes_.., and the plain law that ties the model to CheckTableName's rule.
-/
import Derived.Test.Qxb6627550aFmtName
namespace Go.Proofs.Qxb6627550aFmt
open Go.RowKit
set_option linter.unusedVariables false

def okH (n : Nat) : Bool := (decide (97 ≤ n) && decide (n ≤ 122)) || decide (n = 95)
def okD (n : Nat) : Bool := decide (48 ≤ n) && decide (n ≤ 57)
def inB (l : List UInt8) (n : Nat) : Bool := l.any fun c => c.toNat == n
theorem in_head : ∀ n, n < 256 → inB [97, 98, 99, 100, 101, 102, 103, 104, 105, 106, 107, 108, 109, 110, 111, 112, 113, 114, 115, 116, 117, 118, 119, 120, 121, 122, 95] n = okH n := by decide +kernel
theorem in_more : ∀ n, n < 256 → inB [48, 49, 50, 51, 52, 53, 54, 55, 56, 57] n = okD n := by decide +kernel
theorem inB_true {l : List UInt8} {n k : Nat} (hk : k < l.length) (h : bn l k = n) : inB l n = true := by
  unfold inB
  rw [List.any_eq_true]
  refine ⟨l[k], List.getElem_mem hk, ?_⟩
  unfold bn at h
  rw [List.getElem?_eq_getElem hk] at h
  simpa using h
theorem inB_false {l : List UInt8} {n : Nat} (h : ∀ k, k < l.length → bn l k ≠ n) : inB l n = false := by
  rw [Bool.eq_false_iff]
  intro ht
  unfold inB at ht
  rw [List.any_eq_true] at ht
  obtain ⟨c, hc, he⟩ := ht
  obtain ⟨k, hk, rfl⟩ := List.mem_iff_getElem.1 hc
  refine h k hk ?_
  unfold bn
  rw [List.getElem?_eq_getElem hk]
  simpa using he

theorem byte_at (s : ByteArray) (k : Nat) (h : k < s.size) : ((s[k]'h).toNat : Int) = (bn s.data.toList k : Nat) := by
  unfold bn
  rw [Lib.Pa.at_eq s k h]
  rfl

set_option maxHeartbeats 400000 in
theorem in_any (s : ByteArray) (n : Nat) (w : World) (hs : s.size ≤ 4194304) :
    Calls Tryf.prog 11 #[.string s, .int .u8 n] w fun e w' => e = .returned (.bool (inB s.data.toList n)) ∧ w = w' := by
  obtain ⟨r, R0⟩ : ∃ r, inB s.data.toList n = r := ⟨_, rfl⟩
  rw [R0]
  have RB : Hid (inB s.data.toList n = r) := R0
  clear R0
  have HLEN : Hid (s.size = s.data.toList.length) := Lib.size_eq s
  go_enter Tryf.func11, Tryf.ntmps11
  go_wp2
  go_loop [5] (fun i => ∃ k : Nat, k ≤ s.size ∧ i = .int .i64 k ∧ ∀ j, j < k → bn s.data.toList j ≠ n) (fun i => s.size - (RowKit.intOf i).toNat)
  case atStart => exact ⟨0, Nat.zero_le _, rfl, fun j hj => by omega⟩
  case round =>
    obtain ⟨k, hk, rfl, hso⟩ := hrel
    have HS : Hid (∀ j, j < k → bn s.data.toList j ≠ n) := hso
    clear hso
    by_cases hlt : k < s.size
    · have hlt' : (k : Int) < s.size := by omega
      have hat := byte_at s k hlt
      by_cases he : bn s.data.toList k = n
      · have hr : r = true := by rw [← RB.out]; exact inB_true (by rw [← HLEN.out]; exact hlt) he
        subst hr
        have t : (((s[k]'hlt).toNat : Int) == (n : Int)) = true := by rw [hat, beq_iff_eq]; omega
        clear he hat
        go_wp2
        go_ret
        exact ⟨rfl, rfl⟩
      · have t : (((s[k]'hlt).toNat : Int) == (n : Int)) = false := by rw [hat, beq_eq_false_iff_ne]; omega
        have HN : Hid (∀ j, j < k + 1 → bn s.data.toList j ≠ n) := fun j hj => by
          rcases Nat.lt_or_ge j k with h1 | h1
          · exact HS.out j h1
          · have e : j = k := by omega
            subst e
            exact he
        clear he hat HS
        go_wp2
        go_round
        case rel => exact ⟨k + 1, by omega, by go_num, HN.out⟩
        case measure => simp [RowKit.intOf]; omega
    · have hr : r = false := by
        rw [← RB.out]
        exact inB_false (fun j hj => HS.out j (by rw [← HLEN.out] at hj; omega))
      subst hr
      have hlt' : ¬ (k : Int) < s.size := by omega
      go_wp2
      go_ret
      exact ⟨rfl, rfl⟩

theorem head_any (n : Nat) (hn : n < 256) (w : World) : Calls Tryf.prog 11 #[.string { data := #[97, 98, 99, 100, 101, 102, 103, 104, 105, 106, 107, 108, 109, 110, 111, 112, 113, 114, 115, 116, 117, 118, 119, 120, 121, 122, 95] }, .int .u8 n] w fun e w' => ∃ b : Bool, e = .returned (.bool b) ∧ Hid (okH n = b) ∧ w = w' :=
  (in_any _ n w (by decide)).mono fun e w' h => ⟨_, h.1, (in_head n hn).symm, h.2⟩
theorem more_any (n : Nat) (hn : n < 256) (w : World) : Calls Tryf.prog 11 #[.string { data := #[48, 49, 50, 51, 52, 53, 54, 55, 56, 57] }, .int .u8 n] w fun e w' => ∃ b : Bool, e = .returned (.bool b) ∧ Hid (okD n = b) ∧ w = w' :=
  (in_any _ n w (by decide)).mono fun e w' h => ⟨_, h.1, (in_more n hn).symm, h.2⟩

/-! ### The plain law -/
def cntC (l : List UInt8) : Nat → Nat
  | 0 => 0
  | k + 1 => cntC l k + if (okH (bn l k) || okD (bn l k)) = true then 1 else 0
theorem cntC_le (l : List UInt8) : ∀ k, cntC l k ≤ k
  | 0 => Nat.le_refl _
  | k + 1 => by
    have := cntC_le l k
    unfold cntC
    split <;> omega
theorem cntC_all (l : List UInt8) : ∀ k, cntC l k = k ↔ ∀ j, j < k → (okH (bn l j) || okD (bn l j)) = true
  | 0 => ⟨fun _ j hj => by omega, fun _ => rfl⟩
  | k + 1 => by
    have ih := cntC_all l k
    have hle := cntC_le l k
    unfold cntC
    constructor
    · intro h
      by_cases hc : (okH (bn l k) || okD (bn l k)) = true
      · rw [if_pos hc] at h
        intro j hj
        rcases Nat.lt_or_ge j k with h1 | h1
        · exact ih.1 (by omega) j h1
        · have e : j = k := by omega
          subst e
          exact hc
      · rw [if_neg hc] at h
        omega
    · intro h
      rw [if_pos (h k (by omega)), ih.2 (fun j hj => h j (by omega))]
theorem okFrom_iff (l : List UInt8) : ∀ m k, k + m = l.length → (okFrom k (l.drop k) = true ↔ ∀ j, k ≤ j → j < l.length → okN j (bn l j) = true)
  | 0, k, h => by
    rw [List.drop_of_length_le (by omega)]
    exact ⟨fun _ j h1 h2 => by omega, fun _ => rfl⟩
  | m + 1, k, h => by
    have ih := okFrom_iff l m (k + 1) (by omega)
    rw [drop_bn (by omega), Bool.and_eq_true, ih]
    constructor
    · rintro ⟨h1, h2⟩ j h3 h4
      rcases Nat.lt_or_ge k j with h5 | h5
      · exact h2 j (by omega) h4
      · have e : j = k := by omega
        subst e
        exact h1
    · intro h1
      exact ⟨h1 k (Nat.le_refl _) (by omega), fun j h2 h3 => h1 j (by omega) h3⟩
theorem okN_zero (n : Nat) : okN 0 n = okH n := by simp [okN, okH]
theorem okN_pos {j : Nat} (h : 0 < j) (n : Nat) : okN j n = (okH n || okD n) := by simp [okN, okH, okD, h]
theorem okName_iff (l : List UInt8) : okName l = true ↔ 1 ≤ l.length ∧ l.length ≤ 63 ∧ ∀ j, j < l.length → okN j (bn l j) = true := by
  unfold okName
  have := okFrom_iff l l.length 0 (by omega)
  rw [List.drop_zero] at this
  rw [Bool.and_eq_true, Bool.and_eq_true, decide_eq_true_eq, decide_eq_true_eq, this]
  constructor
  · rintro ⟨⟨h1, h2⟩, h3⟩
    exact ⟨h1, h2, fun j hj => h3 j (Nat.zero_le _) hj⟩
  · rintro ⟨h1, h2, h3⟩
    exact ⟨⟨h1, h2⟩, fun j _ hj => h3 j hj⟩
/-- The model's answer, behind its first three tests. -/
theorem model_law {l : List UInt8} (h1 : 1 ≤ l.length) (h2 : l.length ≤ 63) (h3 : okH (bn l 0) = true) : okName l = ((cntC l l.length : Int) == (l.length : Int)) := by
  rw [Bool.eq_iff_iff, beq_iff_eq, okName_iff]
  have hc := cntC_all l l.length
  constructor
  · rintro ⟨_, _, h⟩
    have : cntC l l.length = l.length := hc.2 (fun j hj => by
      have hj2 := h j hj
      rcases Nat.eq_zero_or_pos j with h5 | h5
      · subst h5
        rw [okN_zero] at hj2
        rw [hj2]; rfl
      · rw [okN_pos h5] at hj2
        exact hj2)
    omega
  · intro h
    have h' := hc.1 (by omega)
    refine ⟨h1, h2, fun j hj => ?_⟩
    rcases Nat.eq_zero_or_pos j with h5 | h5
    · subst h5
      rw [okN_zero]
      exact h3
    · rw [okN_pos h5]
      exact h' j hj
theorem model_head {l : List UInt8} (h1 : 1 ≤ l.length) (h3 : okH (bn l 0) = false) : okName l = false := by
  rw [Bool.eq_false_iff]
  intro h
  have := ((okName_iff l).1 h).2.2 0 (by omega)
  rw [okN_zero, h3] at this
  exact absurd this (by decide)
theorem model_len {l : List UInt8} (h : ¬ (1 ≤ l.length ∧ l.length ≤ 63)) : okName l = false := by
  rw [Bool.eq_false_iff]
  intro h1
  have := (okName_iff l).1 h1
  exact h ⟨this.1, this.2.1⟩

set_option maxRecDepth 100000 in
set_option maxHeartbeats 1000000 in
theorem model_any (s : ByteArray) (w : World) (hs : s.size ≤ 4194304) :
    Calls Tryf.prog 7 #[.string s] w fun e w' => e = .returned (.bool (okName s.data.toList)) ∧ w = w' := by
  have hlen := Lib.size_eq s
  by_cases h1 : s.size < 1
  · rw [model_len (by omega)]
    have h1' : (s.size : Int) < 1 := by omega
    clear hlen
    go_enter Tryf.func7, Tryf.ntmps7
    go_wp2
    go_ret
    exact ⟨rfl, rfl⟩
  have h1' : ¬ (s.size : Int) < 1 := by omega
  by_cases h2 : 63 < s.size
  · rw [model_len (by omega)]
    have h2' : (63 : Int) < s.size := by omega
    clear hlen
    go_enter Tryf.func7, Tryf.ntmps7
    go_wp2
    go_ret
    exact ⟨rfl, rfl⟩
  have h2' : ¬ (63 : Int) < s.size := by omega
  obtain ⟨r, R0⟩ : ∃ r, okName s.data.toList = r := ⟨_, rfl⟩
  rw [R0]
  have RB : Hid (okName s.data.toList = r) := R0
  have HLEN : Hid (s.size = s.data.toList.length) := hlen
  have hpos : 0 < s.size := by omega
  have hat := byte_at s 0 hpos
  clear R0 hlen
  go_enter Tryf.func7, Tryf.ntmps7
  go_wp2_with fail
  refine (head_any (bn s.data.toList 0) (bn_lt _ _) w).mono ?_
  rintro e w' ⟨b, rfl, B, rfl⟩
  cases b with
  | false =>
    have hr : r = false := by rw [← RB.out]; exact model_head (by rw [← HLEN.out]; omega) B.out
    subst hr
    go_wp2
    go_ret
    exact ⟨rfl, rfl⟩
  | true =>
  have HR : Hid (r = ((cntC s.data.toList s.size : Int) == (s.size : Int))) := by
    show _ = _
    rw [← RB.out, model_law (by rw [← HLEN.out]; omega) (by rw [← HLEN.out]; omega) B.out, ← HLEN.out]
  clear RB hat
  go_wp2
  go_loop [3, 4] (fun g i => ∃ k : Nat, k ≤ s.size ∧ i = .int .i64 k ∧ g = .int .i64 (cntC s.data.toList k)) (fun _ i => s.size - (RowKit.intOf i).toNat)
  case atStart => exact ⟨0, Nat.zero_le _, rfl, rfl⟩
  case round =>
    obtain ⟨k, hk, rfl, rfl⟩ := hrel
    by_cases hlt : k < s.size
    · have hlt' : (k : Int) < s.size := by omega
      have hat := byte_at s k hlt
      have hcl := cntC_le s.data.toList k
      have HC : Hid (cntC s.data.toList (k + 1) = cntC s.data.toList k + if (okH (bn s.data.toList k) || okD (bn s.data.toList k)) = true then 1 else 0) := rfl
      generalize cntC s.data.toList k = C at *
      go_wp2_with fail
      refine (head_any (bn s.data.toList k) (bn_lt _ _) w).mono ?_
      rintro e w' ⟨b1, rfl, B1, rfl⟩
      cases b1 with
      | true =>
        have HC2 : Hid (cntC s.data.toList (k + 1) = C + 1) := by
          show _ = _
          rw [HC.out, B1.out, Bool.true_or, if_pos rfl]
        clear HC
        go_wp2
        go_round
        case rel => exact ⟨k + 1, by omega, by go_num, by rw [HC2.out]; go_num⟩
        case measure => simp [RowKit.intOf]; omega
      | false =>
        go_wp2_with fail
        refine (more_any (bn s.data.toList k) (bn_lt _ _) w).mono ?_
        rintro e w' ⟨b2, rfl, B2, rfl⟩
        cases b2 with
        | true =>
          have HC2 : Hid (cntC s.data.toList (k + 1) = C + 1) := by
            show _ = _
            rw [HC.out, B2.out, Bool.or_true, if_pos rfl]
          clear HC
          go_wp2
          go_round
          case rel => exact ⟨k + 1, by omega, by go_num, by rw [HC2.out]; go_num⟩
          case measure => simp [RowKit.intOf]; omega
        | false =>
          have HC2 : Hid (cntC s.data.toList (k + 1) = C) := by
            show _ = _
            rw [HC.out, B1.out, B2.out, if_neg (by decide)]
            rfl
          clear HC
          go_wp2
          go_round
          case rel => exact ⟨k + 1, by omega, by go_num, by rw [HC2.out]⟩
          case measure => simp [RowKit.intOf]; omega
    · have hke : k = s.size := by omega
      subst hke
      have hlt' : ¬ (s.size : Int) < s.size := by omega
      have hr := HR.out
      clear HR
      subst hr
      go_wp2
      go_ret
      exact ⟨rfl, rfl⟩

set_option maxHeartbeats 400000 in
theorem bytes3 (s : ByteArray) (w : World) (hs : s.size ≤ maxLen) :
    Calls Tryf.prog 5 #[.string s] w fun e w' => e = .returned (.bool (decide (s.size ≤ 1048576))) ∧ w = w' := by
  unfold maxLen at hs
  by_cases h : s.size ≤ 1048576
  · rw [decide_eq_true h]
    have h1 : (s.size : Int) ≤ 1048576 := by omega
    go_enter Tryf.func5, Tryf.ntmps5
    go_wp2
    go_ret
    exact ⟨rfl, rfl⟩
  · rw [decide_eq_false h]
    have h1 : (1048576 : Int) < s.size := by omega
    go_enter Tryf.func5, Tryf.ntmps5
    go_wp2
    go_ret
    exact ⟨rfl, rfl⟩
set_option maxHeartbeats 400000 in
theorem bytes4 (s : ByteArray) (k : Int) (w : World) (hs : s.size ≤ maxLen) :
    Calls Tryf.prog 8 #[.string s, .int .i64 k] w fun e w' => e = .returned (.bool (decide (s.size ≤ 1048576))) ∧ w = w' := by
  unfold maxLen at hs
  by_cases h : s.size ≤ 1048576
  · rw [decide_eq_true h]
    have h1 : (s.size : Int) ≤ 1048576 := by omega
    go_enter Tryf.func8, Tryf.ntmps8
    go_wp2
    go_ret
    exact ⟨rfl, rfl⟩
  · rw [decide_eq_false h]
    have h1 : (1048576 : Int) < s.size := by omega
    go_enter Tryf.func8, Tryf.ntmps8
    go_wp2
    go_ret
    exact ⟨rfl, rfl⟩
end Go.Proofs.Qxb6627550aFmt
