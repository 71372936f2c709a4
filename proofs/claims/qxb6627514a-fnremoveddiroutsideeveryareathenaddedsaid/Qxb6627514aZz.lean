/-
  The walk of zzCleanB1.
-/
import Derived.Test.Qxb6627514aStr
namespace Go.Proofs.Qxb6627514a
open Go.ChangeShapes Go.WideShapes Go.ChangeAt Go.RowKit Go.Lib Go.Lib.Pa
set_option linter.unusedVariables false

def segAt (l : List UInt8) (st k : Nat) : List UInt8 := (l.drop st).take (k - st)
theorem seg_end {l : List UInt8} {st : Nat} (hf : 47 ∉ segAt l st l.length) : els (l.drop st) = [segAt l st l.length] := by
  have e : segAt l st l.length = l.drop st := by unfold segAt; rw [List.take_of_length_le (by simp)]
  rw [e] at hf ⊢
  exact els_plain _ hf
theorem seg_slash {l : List UInt8} {st k : Nat} (hs : st ≤ k) (hk : l[k]? = some 47) (hf : 47 ∉ segAt l st k) : els (l.drop st) = segAt l st k :: els (l.drop (k + 1)) := by
  obtain ⟨hlt, h4⟩ := List.getElem?_eq_some_iff.1 hk
  have e : l.drop st = segAt l st k ++ 47 :: l.drop (k + 1) := by
    have h1 := List.take_append_drop (k - st) (l.drop st)
    rw [List.drop_drop, show st + (k - st) = k by omega, List.drop_eq_getElem_cons hlt, h4] at h1
    exact h1.symm
  rw [e]
  exact els_cut _ _ hf
theorem seg_next {l : List UInt8} {st k : Nat} {c : UInt8} (hs : st ≤ k) (hk : l[k]? = some c) (hc : c ≠ 47) (hf : 47 ∉ segAt l st k) : 47 ∉ segAt l st (k + 1) := by
  obtain ⟨hlt, h4⟩ := List.getElem?_eq_some_iff.1 hk
  have e : segAt l st (k + 1) = segAt l st k ++ [c] := by
    unfold segAt
    rw [show k + 1 - st = (k - st) + 1 by omega, List.take_succ_eq_append_getElem (by simp; omega)]
    simp only [List.getElem_drop]
    have : st + (k - st) = k := by omega
    simp only [this, h4]
  rw [e]
  intro hm
  rcases List.mem_append.1 hm with h | h
  · exact hf h
  · simp at h; exact hc h.symm
theorem ok_bad {ro od : Bool} {e : List UInt8} {R : List (List UInt8)} (h : e = [] ∨ e = [46]) : segOK ro od (e :: R) = false := by
  unfold segOK
  rw [if_pos h]
theorem ok_dd_bad {ro od : Bool} {R : List (List UInt8)} (h : ro = true ∨ od = false) : segOK ro od ([46, 46] :: R) = false := by
  unfold segOK
  rw [if_neg (by decide), if_pos rfl, if_pos h]
theorem ok_dd {R : List (List UInt8)} : segOK false true ([46, 46] :: R) = segOK false true R := by
  show (if ([46, 46] : List UInt8) = [] ∨ ([46, 46] : List UInt8) = [46] then false else if ([46, 46] : List UInt8) = [46, 46] then (if false = true ∨ true = false then false else segOK false true R) else segOK false false R) = _
  rw [if_neg (by decide), if_pos rfl, if_neg (by decide)]
theorem ok_other {ro od : Bool} {e : List UInt8} {R : List (List UInt8)} (h1 : ¬ (e = [] ∨ e = [46])) (h2 : e ≠ [46, 46]) : segOK ro od (e :: R) = segOK ro false R := by
  show (if e = [] ∨ e = [46] then false else if e = [46, 46] then (if ro = true ∨ od = false then false else segOK ro od R) else segOK ro false R) = _
  rw [if_neg h1, if_neg h2]
theorem clean_last {r : List UInt8} (h : r ≠ []) : cleanB (r ++ [47]) = false := by
  rw [Bool.eq_false_iff]
  intro hc
  unfold cleanB at hc
  rw [Bool.or_eq_true, Bool.or_eq_true, beq_iff_eq, beq_iff_eq] at hc
  cases r with
  | nil => exact h rfl
  | cons c r =>
    rcases hc with (hc | hc) | hc
    · have := congrArg List.length hc; simp at this
    · have := congrArg List.length hc; simp at this
    · have e2 : bodyOf (c :: r ++ [47]) = bodyOf (c :: r) ++ 47 :: [] := by
        unfold bodyOf
        have e1 : rootedB (c :: r ++ [47]) = rootedB (c :: r) := rfl
        rw [e1]
        split <;> rfl
      rw [e2, els_below] at hc
      exact segOK_ne_nil hc [] (by simp [els]) rfl
theorem cleanB_seg {p : List UInt8} (h1 : p ≠ [46]) (h2 : p ≠ [47]) : cleanB p = segOK (rootedB p) true (els (p.drop (if rootedB p = true then 1 else 0))) := by
  unfold cleanB bodyOf
  rw [beq_eq_false_iff_ne.2 h1, beq_eq_false_iff_ne.2 h2, Bool.false_or, Bool.false_or]
  split <;> simp

/-- What holds ahead of a round. -/
def Inv (l : List UInt8) (ro od : Bool) (st k : Nat) : Prop :=
  (st ≤ k ∧ k ≤ l.length ∧ 47 ∉ segAt l st k ∧ cleanB l = segOK ro od (els (l.drop st))) ∨ (k = l.length + 1 ∧ cleanB l = true)
/-- The segment that ends at k, and what follows it. -/
theorem inv_cut {l : List UInt8} {ro od : Bool} {st k : Nat} (h : Inv l ro od st k) (hk : k = l.length ∨ l[k]? = some 47) : st ≤ k ∧ k ≤ l.length ∧ ∃ R, cleanB l = segOK ro od (segAt l st k :: R) ∧ ∀ od2, cleanB l = segOK ro od2 R → Inv l ro od2 (k + 1) (k + 1) := by
  rcases h with ⟨h1, h2, h3, h4⟩ | ⟨h1, _⟩
  · refine ⟨h1, h2, ?_⟩
    by_cases hkl : k = l.length
    · refine ⟨[], ?_, fun od2 h5 => .inr ⟨by omega, h5⟩⟩
      rw [hkl] at h3 ⊢
      rw [h4, seg_end h3]
    · have hk47 : l[k]? = some 47 := by
        rcases hk with h | h
        · exact absurd h hkl
        · exact h
      refine ⟨els (l.drop (k + 1)), by rw [h4, seg_slash h1 hk47 h3], fun od2 h5 => .inl ⟨Nat.le_refl _, by omega, ?_, h5⟩⟩
      unfold segAt
      simp
  · rcases hk with h | h
    · omega
    · rw [List.getElem?_eq_none (by omega)] at h
      exact absurd h (by simp)
theorem inv_next {l : List UInt8} {ro od : Bool} {st k : Nat} {c : UInt8} (h : Inv l ro od st k) (hk : l[k]? = some c) (hc : c ≠ 47) : Inv l ro od st (k + 1) := by
  obtain ⟨hlt, _⟩ := List.getElem?_eq_some_iff.1 hk
  rcases h with ⟨h1, h2, h3, h4⟩ | ⟨h1, h2⟩
  · exact .inl ⟨by omega, by omega, seg_next h1 hk hc h3, h4⟩
  · omega
theorem seg_raw (p : ByteArray) (st k : Nat) : (p.extract st k).toList = segAt p.data.toList st k := extract_toList p st k

set_option maxRecDepth 100000 in
set_option maxHeartbeats 2000000 in
theorem clean_loop (p : ByteArray) (w : World) (hp : p.size ≤ 4194304) (hpos : 0 < p.size) (n1 : (p.toList == [46]) = false) (n2 : (p.toList == [47]) = false) (hl : (((p[p.size - 1]'(by omega)).toNat : Int) == 47) = false)
    (ro : Bool) (hro : (((p[0]'hpos).toNat : Int) == 47) = ro) (hcl : cleanB p.data.toList = segOK ro true (els (p.data.toList.drop (if ro = true then 1 else 0)))) :
    Calls Try.prog 12 #[.string p] w fun e w' => e = .returned (.bool (cleanB p.data.toList)) ∧ w = w' := by
  have hne : p.toList.isEmpty = false := by
    rw [toList_data, List.isEmpty_eq_false_iff]
    intro e
    rw [Lib.size_eq, e] at hpos
    simp at hpos
  have hi : ((p.size : Int) - 1).toNat = p.size - 1 := by omega
  obtain ⟨cb, C0⟩ : ∃ b, cleanB p.data.toList = b := ⟨_, rfl⟩
  rw [C0]
  have CB : Hid (cleanB p.data.toList = cb) := C0
  have HCL : Hid (cleanB p.data.toList = segOK ro true (els (p.data.toList.drop (if ro = true then 1 else 0)))) := hcl
  clear C0 hcl
  obtain ⟨q, Q⟩ : ∃ q, q = ro := ⟨_, rfl⟩
  have HQ : Hid (q = ro) := Q
  have HI0 : Hid (Inv p.data.toList q true (if ro = true then 1 else 0) (if ro = true then 1 else 0)) := by
    refine .inl ⟨Nat.le_refl _, ?_, by simp [segAt], by rw [Q]; exact HCL.out⟩
    rw [← Lib.size_eq]
    split <;> omega
  clear Q HCL
  have hsz : p.data.toList.length = p.size := (Lib.size_eq p).symm
  have HSZ : Hid (p.data.toList.length = p.size) := hsz
  clear hsz
  cases ro
  all_goals
    go_enter Try.func12, Try.ntmps12
    go_wp2
    go_loop [5, 6, 7] (fun a b c => ∃ (od : Bool) (st k : Nat), a = .bool od ∧ b = .int .i64 st ∧ c = .int .i64 k ∧ Inv p.data.toList q od st k) (fun _ _ c => p.size + 1 - (RowKit.intOf c).toNat)
    case atStart => exact ⟨true, _, _, rfl, rfl, rfl, HI0.out⟩
    case round =>
      clear HI0
      obtain ⟨od, st, k, rfl, rfl, rfl, hinv⟩ := hrel
      have HI : Hid (Inv p.data.toList q od st k) := hinv
      clear hinv
      by_cases hle : k ≤ p.size
      · have hle' : (k : Int) ≤ p.size := by omega
        by_cases hend : k = p.size ∨ ∃ h : k < p.size, p[k] = 47
        · obtain ⟨h1, h2, R, hR, hnext⟩ := inv_cut HI.out (by
            rcases hend with h | ⟨h, e⟩
            · exact .inl (by rw [HSZ.out]; exact h)
            · exact .inr (by rw [at_eq p k h, e]))
          have HR : Hid (cleanB p.data.toList = segOK q od (segAt p.data.toList st k :: R)) := hR
          have HN : Hid (∀ od2, cleanB p.data.toList = segOK q od2 R → Inv p.data.toList q od2 (k + 1) (k + 1)) := hnext
          have h1' : (st : Int) ≤ k := by omega
          clear hR hnext h2 HI
          have htest : ((k : Int) == p.size) = true ∨ (((k : Int) == p.size) = false ∧ ∃ h : k < p.size, ((p[k].toNat : Int) == 47) = true) := by
            rcases hend with h | ⟨h, e⟩
            · exact .inl (by rw [beq_iff_eq]; omega)
            · exact .inr ⟨by rw [beq_eq_false_iff_ne]; omega, h, by rw [e]; rfl⟩
          clear hend
          have e1 : (p.extract st k).toList = segAt p.data.toList st k := seg_raw p st k
          generalize segAt p.data.toList st k = S at *
          by_cases s12 : S = [] ∨ S = [46]
          · have hv : cb = false := by rw [← CB.out, HR.out]; exact ok_bad s12
            subst hv
            rcases s12 with rfl | rfl
            · rcases htest with t | ⟨t, hk, t2⟩
              all_goals
                go_wp2
                go_ret
                exact ⟨rfl, rfl⟩
            · rcases htest with t | ⟨t, hk, t2⟩
              all_goals
                go_wp2
                go_ret
                exact ⟨rfl, rfl⟩
          · have b1 : S.isEmpty = false := by rw [List.isEmpty_eq_false_iff]; exact fun e => s12 (.inl e)
            have b2 : (S == [46]) = false := by rw [beq_eq_false_iff_ne]; exact fun e => s12 (.inr e)
            by_cases s3 : S = [46, 46]
            · subst s3
              by_cases hbad : q = true ∨ od = false
              · have hv : cb = false := by rw [← CB.out, HR.out]; exact ok_dd_bad hbad
                subst hv
                have hbad2 : od = false ∨ (od = true ∧ q = true) := by
                  cases od
                  · exact .inl rfl
                  · exact .inr ⟨rfl, by rcases hbad with h | h; exact h; cases h⟩
                have hqq := HQ.out
                clear hbad s12 b1 b2
                rcases hbad2 with rfl | ⟨rfl, hq⟩
                · clear hqq
                  rcases htest with t | ⟨t, hk, t2⟩
                  all_goals
                    go_wp2
                    go_ret
                    exact ⟨rfl, rfl⟩
                · rw [hq] at hqq
                  first
                    | exact absurd hqq (by decide)
                    | (clear hq hqq
                       rcases htest with t | ⟨t, hk, t2⟩
                       all_goals
                         go_wp2
                         go_ret
                         exact ⟨rfl, rfl⟩)
              · have hq : q = false := by cases q; rfl; exact absurd (.inl rfl) hbad
                have ho : od = true := by cases od; exact absurd (.inr rfl) hbad; rfl
                have hqq := HQ.out
                subst ho
                have HNX : Hid (Inv p.data.toList q true (k + 1) (k + 1)) := HN.out true (by rw [HR.out, hq, ok_dd])
                rw [hq] at hqq
                first
                  | exact absurd hqq (by decide)
                  | (clear hbad s12 b1 b2 hq hqq HR HN
                     rcases htest with t | ⟨t, hk, t2⟩
                     all_goals
                       go_wp2
                       go_round
                       case rel => exact ⟨true, k + 1, k + 1, rfl, by go_num, by go_num, HNX.out⟩
                       case measure => simp [RowKit.intOf]; omega)
            · have b3 : (S == [46, 46]) = false := by rw [beq_eq_false_iff_ne]; exact s3
              have HNX : Hid (Inv p.data.toList q false (k + 1) (k + 1)) := HN.out false (by rw [HR.out, ok_other s12 s3])
              clear s12 s3 HR HN
              rcases htest with t | ⟨t, hk, t2⟩
              all_goals
                go_wp2
                go_round
                case rel => exact ⟨false, k + 1, k + 1, rfl, by go_num, by go_num, HNX.out⟩
                case measure => simp [RowKit.intOf]; omega
        · have hk : k < p.size := by
            rcases Nat.lt_or_ge k p.size with h | h
            · exact h
            · exact absurd (.inl (by omega)) hend
          have hne47 : p[k] ≠ 47 := fun e => hend (.inr ⟨hk, e⟩)
          have t : ((k : Int) == p.size) = false := by rw [beq_eq_false_iff_ne]; omega
          have t2 : ((p[k].toNat : Int) == 47) = false := by rw [beq47, beq_eq_false_iff_ne]; exact hne47
          have HNX : Hid (Inv p.data.toList q od st (k + 1)) := inv_next HI.out (at_eq p k hk) hne47
          clear hend hne47 HI
          go_wp2
          go_round
          case rel => exact ⟨od, st, k + 1, rfl, rfl, by go_num, HNX.out⟩
          case measure => simp [RowKit.intOf]; omega
      · have hv : cb = true := by
          rw [← CB.out]
          rcases HI.out with ⟨_, h2, _, _⟩ | ⟨_, h2⟩
          · rw [HSZ.out] at h2; omega
          · exact h2
        subst hv
        have hle' : ¬ (k : Int) ≤ p.size := by omega
        go_wp2
        go_ret
        exact ⟨rfl, rfl⟩
theorem data_ne {p : ByteArray} {l : List UInt8} (h : (p.toList == l) = false) : p.data.toList ≠ l := by
  rw [beq_eq_false_iff_ne, toList_data] at h
  exact h

set_option maxHeartbeats 1000000 in
theorem clean_any (p : ByteArray) (w : World) (hp : p.size ≤ 4194304) :
    Calls Try.prog 12 #[.string p] w fun e w' => e = .returned (.bool (cleanB p.data.toList)) ∧ w = w' := by
  by_cases hpos : 0 < p.size
  case neg =>
    have hnil := nil_of_size p hpos
    have he : p.toList.isEmpty = true := by rw [toList_data, hnil]; rfl
    have hv : cleanB p.data.toList = false := by rw [hnil]; decide
    rw [hv]
    clear hv hnil
    go_enter Try.func12, Try.ntmps12
    go_wp2
    go_ret
    exact ⟨rfl, rfl⟩
  have hne : p.toList.isEmpty = false := by
    rw [toList_data, List.isEmpty_eq_false_iff]
    intro e
    rw [Lib.size_eq, e] at hpos
    simp at hpos
  cases n1 : (p.toList == [46]) with
  | true =>
    have hv : cleanB p.data.toList = true := by
      rw [beq_iff_eq, toList_data] at n1
      rw [n1]; decide
    rw [hv]
    clear hv
    go_enter Try.func12, Try.ntmps12
    go_wp2
    go_ret
    exact ⟨rfl, rfl⟩
  | false =>
    cases n2 : (p.toList == [47]) with
    | true =>
      have hv : cleanB p.data.toList = true := by
        rw [beq_iff_eq, toList_data] at n2
        rw [n2]; decide
      rw [hv]
      clear hv
      go_enter Try.func12, Try.ntmps12
      go_wp2
      go_ret
      exact ⟨rfl, rfl⟩
    | false =>
      cases hl : (((p[p.size - 1]'(by omega)).toNat : Int) == 47) with
      | true =>
        have hv : cleanB p.data.toList = false := by
          rw [beq47, beq_iff_eq] at hl
          have hd := data_ne n2
          have hlen := Lib.size_eq p
          have hat := at_eq p (p.size - 1) (by omega)
          rw [hl] at hat
          have hsplit : p.data.toList = p.data.toList.take (p.size - 1) ++ [47] := by
            have h1 := List.take_append_drop (p.size - 1) p.data.toList
            obtain ⟨hlt, h4⟩ := List.getElem?_eq_some_iff.1 hat
            rw [List.drop_eq_getElem_cons hlt, h4, List.drop_of_length_le (by omega)] at h1
            exact h1.symm
          rw [hsplit]
          apply clean_last
          intro e
          rw [e] at hsplit
          exact hd hsplit
        rw [hv]
        have hi : ((p.size : Int) - 1).toNat = p.size - 1 := by omega
        clear hv
        go_enter Try.func12, Try.ntmps12
        go_wp2
        go_ret
        exact ⟨rfl, rfl⟩
      | false =>
        have hab := isAbs_pos p hpos
        refine clean_loop p w hp hpos n1 n2 hl _ rfl ?_
        rw [cleanB_seg (data_ne n1) (data_ne n2)]
        have hr : rootedB p.data.toList = (((p[0]'hpos).toNat : Int) == 47) := hab
        rw [hr]
end Go.Proofs.Qxb6627514a
