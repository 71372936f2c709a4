/-
  The walks of zzHasPrefixB1, zzCutPrefixB1, Within.
-/
import Derived.Test.Qxb6627514aSize
import Derived.Test.Qxb6627514aRem
import Derived.Test.Qxb6627514aShelf
import Derived.Lib.PathFns
namespace Go.Proofs.Qxb6627514a
open Go.ChangeShapes Go.WideShapes Go.ChangeAt Go.RowKit Go.Lib Go.Lib.Pa
set_option linter.unusedVariables false

set_option maxHeartbeats 400000 in
theorem hasPrefix_any (s p : ByteArray) (w : World) (hs : s.size ≤ maxLen) (hp : p.size ≤ maxLen) :
    Calls Try.prog 13 #[.string s, .string p] w fun e w' => e = .returned (.bool (hasPrefix s.data.toList p.data.toList)) ∧ w = w' := by
  unfold maxLen at hs hp
  have hraw := hasPrefix_raw s p
  by_cases h : p.size ≤ s.size
  · rw [decide_eq_true h, Bool.true_and] at hraw
    rw [← hraw]
    clear hraw
    have h' : (p.size : Int) ≤ s.size := by omega
    go_enter Try.func13, Try.ntmps13
    go_wp2
    go_ret
    exact ⟨rfl, rfl⟩
  · rw [decide_eq_false h, Bool.false_and] at hraw
    rw [← hraw]
    clear hraw
    have h' : ¬ (p.size : Int) ≤ s.size := by omega
    go_enter Try.func13, Try.ntmps13
    go_wp2
    go_ret
    exact ⟨rfl, rfl⟩

theorem under_take (d p : List UInt8) : underB d p = true ↔ d.length ≤ p.length ∧ p.take d.length = d ∧ (d.length = p.length ∨ p[d.length]? = some 47) := by
  rw [under_iff]
  constructor
  · rintro (rfl | h)
    · exact ⟨Nat.le_refl _, List.take_length, .inl rfl⟩
    · obtain ⟨r, rfl⟩ := h
      simp
  · rintro ⟨h1, h2, h3⟩
    have he : p = d ++ p.drop d.length := by
      have := List.take_append_drop d.length p
      rw [h2] at this
      exact this.symm
    rcases h3 with h3 | h3
    · left
      rw [List.drop_of_length_le (by omega), List.append_nil] at he
      exact he
    · right
      obtain ⟨hlt, h4⟩ := List.getElem?_eq_some_iff.1 h3
      rw [List.drop_eq_getElem_cons hlt, h4] at he
      exact ⟨p.drop (d.length + 1), by rw [List.append_assoc]; exact he.symm⟩
theorem under_long (d p : ByteArray) (h : p.size < d.size) : underB d.data.toList p.data.toList = false := by
  rw [Bool.eq_false_iff]
  intro hu
  have := (under_take _ _).1 hu
  rw [← Lib.size_eq, ← Lib.size_eq] at this
  omega
theorem take_raw (d p : ByteArray) : ((p.extract 0 d.size).toList == d.toList) = true ↔ p.data.toList.take d.size = d.data.toList := by
  rw [extract_toList, toList_data, beq_iff_eq, List.drop_zero, Nat.sub_zero]
theorem under_other (d p : ByteArray) (h : ((p.extract 0 d.size).toList == d.toList) = false) : underB d.data.toList p.data.toList = false := by
  rw [Bool.eq_false_iff]
  intro hu
  have h1 := ((under_take _ _).1 hu).2.1
  rw [← Lib.size_eq] at h1
  rw [(take_raw d p).2 h1] at h
  exact absurd h (by decide)
theorem under_same (d p : ByteArray) (h : ((p.extract 0 d.size).toList == d.toList) = true) (hs : d.size = p.size) : underB d.data.toList p.data.toList = true := by
  refine (under_take _ _).2 ⟨?_, ?_, .inl ?_⟩
  · rw [← Lib.size_eq, ← Lib.size_eq]; omega
  · rw [← Lib.size_eq]; exact (take_raw d p).1 h
  · rw [← Lib.size_eq, ← Lib.size_eq]; exact hs
theorem under_next (d p : ByteArray) (h : ((p.extract 0 d.size).toList == d.toList) = true) (hs : d.size < p.size) : underB d.data.toList p.data.toList = (((p[d.size]'hs).toNat : Int) == 47) := by
  rw [beq47, Bool.eq_iff_iff, beq_iff_eq, under_take, ← Lib.size_eq, ← Lib.size_eq, at_eq p d.size hs]
  have h1 := (take_raw d p).1 h
  constructor
  · rintro ⟨_, _, h2 | h2⟩
    · omega
    · exact Option.some.inj h2
  · intro h2
    exact ⟨by omega, h1, .inr (by rw [h2])⟩

set_option maxHeartbeats 400000 in
theorem cut_any (d p : ByteArray) (w : World) (hs : d.size ≤ maxLen) (hp : p.size ≤ maxLen) :
    Calls Try.prog 14 #[.string d, .string p] w fun e w' => e = .returned (.bool (underB d.data.toList p.data.toList)) ∧ w = w' := by
  unfold maxLen at hs hp
  by_cases h : p.size < d.size
  · rw [under_long d p h]
    have h' : (p.size : Int) < d.size := by omega
    go_enter Try.func14, Try.ntmps14
    go_wp2
    go_ret
    exact ⟨rfl, rfl⟩
  have h' : ¬ (p.size : Int) < d.size := by omega
  have h'' : d.size ≤ p.size := by omega
  cases hE : ((p.extract 0 d.size).toList == d.toList) with
  | false =>
    rw [under_other d p hE]
    go_enter Try.func14, Try.ntmps14
    go_wp2
    go_ret
    exact ⟨rfl, rfl⟩
  | true =>
    by_cases he : d.size = p.size
    · rw [under_same d p hE he]
      have he' : ((d.size : Int) == p.size) = true := by rw [beq_iff_eq]; omega
      clear he
      go_enter Try.func14, Try.ntmps14
      go_wp2
      all_goals go_ret
      all_goals exact ⟨rfl, rfl⟩
    · have hlt : d.size < p.size := by omega
      rw [under_next d p hE hlt]
      have he' : ((d.size : Int) == p.size) = false := by rw [beq_eq_false_iff_ne]; omega
      go_enter Try.func14, Try.ntmps14
      go_wp2
      all_goals go_ret
      all_goals exact ⟨rfl, rfl⟩

theorem clean_raw (p : ByteArray) : (cleanEls p.data.toList == p.toList) = cleanB p.data.toList := by
  rw [Bool.eq_iff_iff, beq_iff_eq, toList_data, cleanB_iff]
theorem data_slash (d : ByteArray) : (d ++ { data := #[47] }).data.toList = d.data.toList ++ [47] := by simp

set_option maxHeartbeats 400000 in
theorem within_any (p d : ByteArray) (w : World) (hp : p.size ≤ 4194304) (hd : d.size ≤ 4194304) :
    Calls Try.prog 15 #[.string p, .string d] w fun e w' => e = .returned (.bool (withinB p.data.toList d.data.toList)) ∧ Below w.heap.size w w' := by
  unfold withinB
  have hcl := clean_raw p
  cases hE : (p.toList == d.toList) with
  | true =>
    have hu : underB d.data.toList p.data.toList = true := by
      rw [beq_iff_eq, toList_data, toList_data] at hE
      rw [hE]
      exact under_self _
    rw [hu, Bool.true_and]
    go_enter Try.func15, Try.ntmps15
    go_wp2_with fail
    refine (Try.path_Clean_rules p w (by omega)).mono ?_
    rintro e w' ⟨rfl, hb⟩
    have HB : Hid (Below w.heap.size w w') := hb
    clear hb
    go_wp2
    go_ret
    exact ⟨rfl, HB.out⟩
  | false =>
    have hu : underB d.data.toList p.data.toList = hasPrefix p.data.toList (d.data.toList ++ [47]) := by
      rw [beq_eq_false_iff_ne, toList_data, toList_data] at hE
      unfold underB
      rw [beq_eq_false_iff_ne.2 hE, Bool.false_or]
    obtain ⟨b, B0⟩ : ∃ b, hasPrefix p.data.toList (d.data.toList ++ [47]) = b := ⟨_, rfl⟩
    rw [hu, B0]
    have B : Hid (hasPrefix p.data.toList (d.data.toList ++ [47]) = b) := B0
    clear hu B0
    go_enter Try.func15, Try.ntmps15
    go_wp2_with fail
    refine (Try.strings_HasPrefix p _ _).mono ?_
    rintro e w' ⟨he, rfl⟩
    have he2 : e = .returned (.bool b) := he.trans (by rw [data_slash, B.out])
    clear he
    subst he2
    cases b with
    | false =>
      go_wp2
      go_ret
      exact ⟨rfl, Below.refl _ _⟩
    | true =>
      go_wp2_with fail
      refine (Try.path_Clean_rules p _ (by omega)).mono ?_
      rintro e w2 ⟨rfl, hb⟩
      have HB : Hid (Below _ _ w2) := hb
      clear hb
      go_wp2
      go_ret
      exact ⟨rfl, HB.out⟩
end Go.Proofs.Qxb6627514a
