/-
  The walk of zzPremiseMirrorB1.
-/
import Derived.Test.Qxb6627514aDir
namespace Go.Proofs.Qxb6627514a
open Go.ChangeShapes Go.WideShapes Go.ChangeAt Go.RowKit Go.Lib Go.Lib.Pa
set_option linter.unusedVariables false

/-- What is asked of one folder d beside root. -/
def Beside (root d : List UInt8) : Prop := (d = [] → rootedB root = false) ∧ (d ≠ [] → d.length < root.length → underB d root = false)
def TailOK (t : List UInt8) : Prop := t = [] ∨ (cleanB t = true ∧ rootedB t = false ∧ t ≠ [46] ∧ t ≠ [46, 46] ∧ hasPrefix t [46, 46, 47] = false)
structure MirFacts (len : Nat) (ss : List ByteArray) (i : Nat) (t : ByteArray) : Prop where
  lt : i < len
  clean : cleanB (nth ss i).data.toList = true
  n1 : (nth ss i).data.toList ≠ [47]
  n2 : (nth ss i).data.toList ≠ [46]
  tail : TailOK t.data.toList
  beside : ∀ k, k < len → Beside (nth ss i).data.toList (nth ss k).data.toList
structure MirOut (len : Nat) (ss : List ByteArray) (i : Int) (t : ByteArray) (w : World) (e : Ending) (w' : World) : Prop where
  out : ∃ r : Bool, e = .returned (.bool r) ∧ (r = true → 0 ≤ i ∧ MirFacts len ss i.toNat t) ∧ w = w'

theorem clean_bool (p : ByteArray) (w : World) (hp : p.size ≤ 4194304) : Calls Try.prog 12 #[.string p] w fun e w' => ∃ b : Bool, e = .returned (.bool b) ∧ Hid (cleanB p.data.toList = b) ∧ w = w' :=
  (clean_any p w hp).mono fun e w' h => ⟨_, h.1, rfl, h.2⟩
theorem prefix_bool (s p : ByteArray) (w : World) (hs : s.size ≤ maxLen) (hp : p.size ≤ maxLen) : Calls Try.prog 13 #[.string s, .string p] w fun e w' => ∃ b : Bool, e = .returned (.bool b) ∧ Hid (hasPrefix s.data.toList p.data.toList = b) ∧ w = w' :=
  (hasPrefix_any s p w hs hp).mono fun e w' h => ⟨_, h.1, rfl, h.2⟩
theorem cut_bool (d p : ByteArray) (w : World) (hs : d.size ≤ maxLen) (hp : p.size ≤ maxLen) : Calls Try.prog 14 #[.string d, .string p] w fun e w' => ∃ b : Bool, e = .returned (.bool b) ∧ Hid (underB d.data.toList p.data.toList = b) ∧ w = w' :=
  (cut_any d p w hs hp).mono fun e w' h => ⟨_, h.1, rfl, h.2⟩
theorem max_of {n : Nat} (h : n ≤ 4194304) : n ≤ maxLen := by unfold maxLen; omega

set_option maxRecDepth 100000 in
set_option maxHeartbeats 2000000 in
theorem mirP_any (a : Option Addr) (len cap : Nat) (ss : List ByteArray) (i : Int) (t : ByteArray) (w : World) (hr : StrRow w a len ss) (hlen : len ≤ 65536) (hsz : ∀ k, k < len → (nth ss k).size ≤ 1048576) (ht : t.size ≤ 1048576) :
    Calls Try.prog 7 #[.slice a len cap, .int .i64 i, .string t] w (MirOut len ss i t w) := by
  by_cases h1 : i < 0
  · go_enter Try.func7, Try.ntmps7
    go_wp2
    go_ret
    exact ⟨⟨false, rfl, fun h => by simp at h, rfl⟩⟩
  by_cases h2 : (len : Int) ≤ i
  · have h1' : decide (i < 0) = false := decide_eq_false h1
    go_enter Try.func7, Try.ntmps7
    go_wp2
    go_ret
    exact ⟨⟨false, rfl, fun h => by simp at h, rfl⟩⟩
  obtain ⟨m, rfl⟩ := Int.eq_ofNat_of_zero_le (show 0 ≤ i by omega)
  have hm : m < len := by omega
  have h1' : ¬ (m : Int) < 0 := by omega
  have h2' : ¬ (len : Int) ≤ m := by omega
  clear h1 h2
  obtain ⟨b, off, rfl, hc⟩ := hr.2.2.2 (by omega)
  have hcm := hc m hm
  have hrz := hsz m hm
  have HM : Hid (m < len) := hm
  clear hr
  go_enter Try.func7, Try.ntmps7
  go_wp2_with fail
  refine (clean_bool (nth ss m) w (by omega)).mono ?_
  rintro e w' ⟨b1, rfl, B1, rfl⟩
  cases b1 with
  | false =>
    go_wp2
    go_ret
    exact ⟨⟨false, rfl, fun h => by simp at h, rfl⟩⟩
  | true =>
    cases n1 : ((nth ss m).toList == [47]) with
    | true =>
      go_wp2
      go_ret
      exact ⟨⟨false, rfl, fun h => by simp at h, rfl⟩⟩
    | false =>
      cases n2 : ((nth ss m).toList == [46]) with
      | true =>
        go_wp2
        go_ret
        exact ⟨⟨false, rfl, fun h => by simp at h, rfl⟩⟩
      | false =>
        have N1 : Hid ((nth ss m).data.toList ≠ [47]) := data_ne n1
        have N2 : Hid ((nth ss m).data.toList ≠ [46]) := data_ne n2
        have hpos : 0 < (nth ss m).size := by
          rcases Nat.eq_zero_or_pos (nth ss m).size with h | h
          · have hnil := nil_of_size (nth ss m) (by omega)
            have := B1.out
            rw [hnil] at this
            exact absurd this (by decide)
          · exact h

        cases te : t.toList.isEmpty with
        | true =>
          have TOK : Hid (TailOK t.data.toList) := .inl (by rw [← toList_data]; exact List.isEmpty_iff.1 te)
          obtain ⟨rb, R0⟩ : ∃ rb, ((((nth ss m)[0]'hpos).toNat : Int) == 47) = rb := ⟨_, rfl⟩
          have RB : Hid (rootedB (nth ss m).data.toList = rb) := (isAbs_pos (nth ss m) hpos).trans R0
          go_wp2
          clear R0
          go_loop [9] (fun i => ∃ k : Nat, k ≤ len ∧ i = .int .i64 k ∧ ∀ j, j < k → Beside (nth ss m).data.toList (nth ss j).data.toList) (fun i => len - (RowKit.intOf i).toNat)
          case atStart => exact ⟨0, Nat.zero_le _, rfl, fun j hj => by omega⟩
          case round =>
            obtain ⟨k, hk, rfl, hbs⟩ := hrel
            have HBS : Hid (∀ j, j < k → Beside (nth ss m).data.toList (nth ss j).data.toList) := hbs
            clear hbs
            by_cases hlt : k < len
            · have hck := hc k hlt
              have hkz := hsz k hlt
              have hlt' : (k : Int) < len := by omega
              have NX : Beside (nth ss m).data.toList (nth ss k).data.toList → Hid (∀ j, j < k + 1 → Beside (nth ss m).data.toList (nth ss j).data.toList) := fun h j hj => by
                rcases Nat.lt_or_ge j k with h1 | h1
                · exact HBS.out j h1
                · have e : j = k := by omega
                  subst e
                  exact h
              clear hc hsz HBS
              cases de : (nth ss k).toList.isEmpty with
              | true =>
                have hd0 : (nth ss k).data.toList = [] := by rw [← toList_data]; exact List.isEmpty_iff.1 de
                cases rb with
                | true =>
                  clear NX hd0
                  go_wp2
                  go_ret
                  exact ⟨⟨false, rfl, fun h => by simp at h, rfl⟩⟩
                | false =>
                  have HN := NX ⟨fun _ => RB.out, fun h => absurd hd0 h⟩
                  clear NX hd0
                  go_wp2
                  go_round
                  case rel => exact ⟨k + 1, by omega, by go_num, HN.out⟩
                  case measure => simp [RowKit.intOf]; omega
              | false =>
                have hd0 : (nth ss k).data.toList ≠ [] := by
                  rw [← toList_data]
                  exact List.isEmpty_eq_false_iff.1 de
                by_cases hll : (nth ss k).size < (nth ss m).size
                · have hll' : ((nth ss k).size : Int) < (nth ss m).size := by omega
                  have hd1 : Hid ((nth ss k).data.toList ≠ []) := hd0
                  clear hd0
                  have NX2 : Hid (Beside (nth ss m).data.toList (nth ss k).data.toList → Hid (∀ j, j < k + 1 → Beside (nth ss m).data.toList (nth ss j).data.toList)) := NX
                  clear NX
                  go_wp2_with fail
                  refine (cut_bool (nth ss k) (nth ss m) w (max_of (by omega)) (max_of (by omega))).mono ?_
                  rintro e w' ⟨b2, rfl, B2, rfl⟩
                  cases b2 with
                  | true =>
                    go_wp2
                    go_ret
                    exact ⟨⟨false, rfl, fun h => by simp at h, rfl⟩⟩
                  | false =>
                    have HN := NX2.out ⟨fun h => absurd h hd1.out, fun _ _ => B2.out⟩
                    clear NX2
                    go_wp2
                    go_round
                    case rel => exact ⟨k + 1, by omega, by go_num, HN.out⟩
                    case measure => simp [RowKit.intOf]; omega
                · have hll' : ¬ ((nth ss k).size : Int) < (nth ss m).size := by omega
                  have HN := NX ⟨fun h => absurd h hd0, fun _ h => by rw [← Lib.size_eq, ← Lib.size_eq] at h; exact absurd h hll⟩
                  clear NX hd0
                  go_wp2
                  go_round
                  case rel => exact ⟨k + 1, by omega, by go_num, HN.out⟩
                  case measure => simp [RowKit.intOf]; omega
            · have hke : k = len := by omega
              subst hke
              have hlt' : ¬ (k : Int) < k := by omega
              clear hc hsz
              go_wp2
              go_ret
              exact ⟨⟨true, rfl, fun _ => ⟨by omega, ⟨HM.out, B1.out, N1.out, N2.out, TOK.out, HBS.out⟩⟩, rfl⟩⟩
        | false =>
          have tpos : 0 < t.size := by
            rcases Nat.eq_zero_or_pos t.size with h | h
            · have hnil := nil_of_size t (by omega)
              rw [toList_data, hnil] at te
              exact absurd te (by decide)
            · exact h
          go_wp2_with fail
          refine (clean_bool t w (by omega)).mono ?_
          rintro e w' ⟨b3, rfl, B3, rfl⟩
          cases b3 with
          | false =>
            go_wp2
            go_ret
            exact ⟨⟨false, rfl, fun h => by simp at h, rfl⟩⟩
          | true =>
            cases t1 : (((t[0]'tpos).toNat : Int) == 47) with
            | true =>
              go_wp2
              go_ret
              exact ⟨⟨false, rfl, fun h => by simp at h, rfl⟩⟩
            | false =>
              have T1 : Hid (rootedB t.data.toList = false) := (isAbs_pos t tpos).trans t1
              cases t2 : (t.toList == [46]) with
              | true =>
                go_wp2
                go_ret
                exact ⟨⟨false, rfl, fun h => by simp at h, rfl⟩⟩
              | false =>
                cases t3 : (t.toList == [46, 46]) with
                | true =>
                  go_wp2
                  go_ret
                  exact ⟨⟨false, rfl, fun h => by simp at h, rfl⟩⟩
                | false =>
                  have T2 : Hid (t.data.toList ≠ [46]) := data_ne t2
                  have T3 : Hid (t.data.toList ≠ [46, 46]) := data_ne t3
                  go_wp2_with fail
                  refine (prefix_bool t { data := #[46, 46, 47] } w (max_of (by omega)) (by decide)).mono ?_
                  rintro e w' ⟨b4, rfl, B4, rfl⟩
                  cases b4 with
                  | true =>
                    go_wp2
                    go_ret
                    exact ⟨⟨false, rfl, fun h => by simp at h, rfl⟩⟩
                  | false =>
                    have TOK : Hid (TailOK t.data.toList) := .inr ⟨B3.out, T1.out, T2.out, T3.out, B4.out⟩
                    clear t1 t2 t3
                    obtain ⟨rb, R0⟩ : ∃ rb, ((((nth ss m)[0]'hpos).toNat : Int) == 47) = rb := ⟨_, rfl⟩
                    have RB : Hid (rootedB (nth ss m).data.toList = rb) := (isAbs_pos (nth ss m) hpos).trans R0
                    go_wp2
                    clear R0
                    go_loop [9] (fun i => ∃ k : Nat, k ≤ len ∧ i = .int .i64 k ∧ ∀ j, j < k → Beside (nth ss m).data.toList (nth ss j).data.toList) (fun i => len - (RowKit.intOf i).toNat)
                    case atStart => exact ⟨0, Nat.zero_le _, rfl, fun j hj => by omega⟩
                    case round =>
                      obtain ⟨k, hk, rfl, hbs⟩ := hrel
                      have HBS : Hid (∀ j, j < k → Beside (nth ss m).data.toList (nth ss j).data.toList) := hbs
                      clear hbs
                      by_cases hlt : k < len
                      · have hck := hc k hlt
                        have hkz := hsz k hlt
                        have hlt' : (k : Int) < len := by omega
                        have NX : Beside (nth ss m).data.toList (nth ss k).data.toList → Hid (∀ j, j < k + 1 → Beside (nth ss m).data.toList (nth ss j).data.toList) := fun h j hj => by
                          rcases Nat.lt_or_ge j k with h1 | h1
                          · exact HBS.out j h1
                          · have e : j = k := by omega
                            subst e
                            exact h
                        clear hc hsz HBS
                        cases de : (nth ss k).toList.isEmpty with
                        | true =>
                          have hd0 : (nth ss k).data.toList = [] := by rw [← toList_data]; exact List.isEmpty_iff.1 de
                          cases rb with
                          | true =>
                            clear NX hd0
                            go_wp2
                            go_ret
                            exact ⟨⟨false, rfl, fun h => by simp at h, rfl⟩⟩
                          | false =>
                            have HN := NX ⟨fun _ => RB.out, fun h => absurd hd0 h⟩
                            clear NX hd0
                            go_wp2
                            go_round
                            case rel => exact ⟨k + 1, by omega, by go_num, HN.out⟩
                            case measure => simp [RowKit.intOf]; omega
                        | false =>
                          have hd0 : (nth ss k).data.toList ≠ [] := by
                            rw [← toList_data]
                            exact List.isEmpty_eq_false_iff.1 de
                          by_cases hll : (nth ss k).size < (nth ss m).size
                          · have hll' : ((nth ss k).size : Int) < (nth ss m).size := by omega
                            have hd1 : Hid ((nth ss k).data.toList ≠ []) := hd0
                            clear hd0
                            have NX2 : Hid (Beside (nth ss m).data.toList (nth ss k).data.toList → Hid (∀ j, j < k + 1 → Beside (nth ss m).data.toList (nth ss j).data.toList)) := NX
                            clear NX
                            go_wp2_with fail
                            refine (cut_bool (nth ss k) (nth ss m) w (max_of (by omega)) (max_of (by omega))).mono ?_
                            rintro e w' ⟨b2, rfl, B2, rfl⟩
                            cases b2 with
                            | true =>
                              go_wp2
                              go_ret
                              exact ⟨⟨false, rfl, fun h => by simp at h, rfl⟩⟩
                            | false =>
                              have HN := NX2.out ⟨fun h => absurd h hd1.out, fun _ _ => B2.out⟩
                              clear NX2
                              go_wp2
                              go_round
                              case rel => exact ⟨k + 1, by omega, by go_num, HN.out⟩
                              case measure => simp [RowKit.intOf]; omega
                          · have hll' : ¬ ((nth ss k).size : Int) < (nth ss m).size := by omega
                            have HN := NX ⟨fun h => absurd h hd0, fun _ h => by rw [← Lib.size_eq, ← Lib.size_eq] at h; exact absurd h hll⟩
                            clear NX hd0
                            go_wp2
                            go_round
                            case rel => exact ⟨k + 1, by omega, by go_num, HN.out⟩
                            case measure => simp [RowKit.intOf]; omega
                      · have hke : k = len := by omega
                        subst hke
                        have hlt' : ¬ (k : Int) < k := by omega
                        clear hc hsz
                        go_wp2
                        go_ret
                        exact ⟨⟨true, rfl, fun _ => ⟨by omega, ⟨HM.out, B1.out, N1.out, N2.out, TOK.out, HBS.out⟩⟩, rfl⟩⟩
end Go.Proofs.Qxb6627514a
