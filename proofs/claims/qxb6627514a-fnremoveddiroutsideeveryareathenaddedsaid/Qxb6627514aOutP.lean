/-
  The walk of zzPremiseOutsideB1; the plain law of the second statement.
-/
import Derived.Test.Qxb6627514aMirP
namespace Go.Proofs.Qxb6627514a
open Go.ChangeShapes Go.WideShapes Go.ChangeAt Go.RowKit Go.Lib Go.Lib.Pa
set_option linter.unusedVariables false

structure OutFacts (len : Nat) (ss : List ByteArray) (dir : ByteArray) (j : Nat) : Prop where
  le : j ≤ len
  none : cleanB dir.data.toList = true → ∀ k, k < len → (nth ss k).data.toList = [] ∨ underB (nth ss k).data.toList dir.data.toList = false
structure OutOut (len : Nat) (ss : List ByteArray) (dir : ByteArray) (j : Int) (w : World) (e : Ending) (w' : World) : Prop where
  out : ∃ r : Bool, e = .returned (.bool r) ∧ (r = true → 0 ≤ j ∧ OutFacts len ss dir j.toNat) ∧ w = w'

set_option maxRecDepth 100000 in
set_option maxHeartbeats 2000000 in
theorem outP_any (a : Option Addr) (len cap : Nat) (ss : List ByteArray) (dir : ByteArray) (j : Int) (w : World) (hr : StrRow w a len ss) (hlen : len ≤ 65536) (hsz : ∀ k, k < len → (nth ss k).size ≤ 1048576) (ht : dir.size ≤ 1048576) :
    Calls Try.prog 11 #[.slice a len cap, .string dir, .int .i64 j] w (OutOut len ss dir j w) := by
  by_cases h1 : j < 0
  · go_enter Try.func11, Try.ntmps11
    go_wp2
    go_ret
    exact ⟨⟨false, rfl, fun h => by simp at h, rfl⟩⟩
  by_cases h2 : (len : Int) < j
  · have h1' : decide (j < 0) = false := decide_eq_false h1
    go_enter Try.func11, Try.ntmps11
    go_wp2
    go_ret
    exact ⟨⟨false, rfl, fun h => by simp at h, rfl⟩⟩
  obtain ⟨m, rfl⟩ := Int.eq_ofNat_of_zero_le (show 0 ≤ j by omega)
  have hm : m ≤ len := by omega
  have h1' : ¬ (m : Int) < 0 := by omega
  have h2' : ¬ (len : Int) < m := by omega
  clear h1 h2
  have HM : Hid (m ≤ len) := hm
  go_enter Try.func11, Try.ntmps11
  go_wp2_with fail
  refine (clean_bool dir w (by omega)).mono ?_
  rintro e w' ⟨b1, rfl, B1, rfl⟩
  cases b1 with
  | false =>
    go_wp2
    go_ret
    exact ⟨⟨true, rfl, fun _ => ⟨by omega, ⟨HM.out, fun h => by rw [B1.out] at h; exact absurd h (by decide)⟩⟩, rfl⟩⟩
  | true =>
  go_wp2
  go_loop [7] (fun i => ∃ k : Nat, k ≤ len ∧ i = .int .i64 k ∧ ∀ q, q < k → (nth ss q).data.toList = [] ∨ underB (nth ss q).data.toList dir.data.toList = false) (fun i => len - (RowKit.intOf i).toNat)
  case atStart => exact ⟨0, Nat.zero_le _, rfl, fun j hj => by omega⟩
  case round =>
    obtain ⟨k, hk, rfl, hbs⟩ := hrel
    have HBS : Hid (∀ q, q < k → (nth ss q).data.toList = [] ∨ underB (nth ss q).data.toList dir.data.toList = false) := hbs
    clear hbs
    by_cases hlt : k < len
    · obtain ⟨b, off, rfl, hc⟩ := hr.2.2.2 (by omega)
      have hck := hc k hlt
      have hkz := hsz k hlt
      have hlt' : (k : Int) < len := by omega
      have NX : Hid ((nth ss k).data.toList = [] ∨ underB (nth ss k).data.toList dir.data.toList = false → ∀ q, q < k + 1 → (nth ss q).data.toList = [] ∨ underB (nth ss q).data.toList dir.data.toList = false) := fun h q hq => by
        rcases Nat.lt_or_ge q k with h1 | h1
        · exact HBS.out q h1
        · have e : q = k := by omega
          subst e
          exact h
      clear hc hsz HBS hr
      cases de : (nth ss k).toList.isEmpty with
      | true =>
        have hd0 : Hid ((nth ss k).data.toList = []) := by show _ = _; rw [← toList_data]; exact List.isEmpty_iff.1 de
        go_wp2
        go_round
        case rel => exact ⟨k + 1, by omega, by go_num, NX.out (.inl hd0.out)⟩
        case measure => simp [RowKit.intOf]; omega
      | false =>
        go_wp2_with fail
        refine (cut_bool (nth ss k) dir w (max_of (by omega)) (max_of (by omega))).mono ?_
        rintro e w' ⟨b2, rfl, B2, rfl⟩
        cases b2 with
        | true =>
          go_wp2
          go_ret
          exact ⟨⟨false, rfl, fun h => by simp at h, rfl⟩⟩
        | false =>
          go_wp2
          go_round
          case rel => exact ⟨k + 1, by omega, by go_num, NX.out (.inr B2.out)⟩
          case measure => simp [RowKit.intOf]; omega
    · have hke : k = len := by omega
      subst hke
      have hlt' : ¬ (k : Int) < k := by omega
      clear hr hsz
      go_wp2
      go_ret
      exact ⟨⟨true, rfl, fun _ => ⟨by omega, ⟨HM.out, fun _ => HBS.out⟩⟩, rfl⟩⟩

/-! ### The plain law -/
/-- The list with dir laid in at place j. -/
def grownAt (ss : List ByteArray) (dir : ByteArray) (j i : Nat) : ByteArray := if i = j then dir else if i < j then nth ss i else nth ss (i - 1)

theorem within_empty {dir : List UInt8} (hc : cleanB dir = true) : withinB dir [] = rootedB dir := by
  unfold withinB underB rootedB
  rw [hc, Bool.and_true]
  cases dir with
  | nil => exact absurd hc (by decide)
  | cons c r =>
    show ((c :: r) == [] || hasPrefix (c :: r) [47]) = _
    rw [beq_eq_false_iff_ne.2 (by simp), Bool.false_or, Bool.eq_iff_iff, prefix_iff]
    simp
    constructor
    · intro h; exact h.symm
    · intro h; exact h.symm
theorem before_law {len : Nat} {ss : List ByteArray} {dir : ByteArray} {j : Nat} (h : OutFacts len ss dir j) : outTo dir.data.toList (fun i => (nth ss i).data.toList) len = [] := by
  refine outTo_none (fun k hk => ?_)
  cases hc : cleanB dir.data.toList with
  | false => exact .inr (by unfold withinB; rw [hc, Bool.and_false])
  | true =>
    rcases h.none hc k hk with h1 | h1
    · exact .inl h1
    · exact .inr (by unfold withinB; rw [h1, Bool.false_and])
theorem after_dirty {len : Nat} {g : Nat → List UInt8} {dir : List UInt8} (hc : cleanB dir = false) : outTo dir g len = [] :=
  outTo_none (fun k hk => .inr (by unfold withinB; rw [hc, Bool.and_false]))
theorem after_law {len : Nat} {ss : List ByteArray} {dir : ByteArray} {j : Nat} (h : OutFacts len ss dir j) (hc : cleanB dir.data.toList = true) {E : Bool}
    (hE : E = true ↔ rootedB dir.data.toList = true ∧ ∃ i, j ≤ i ∧ i < len ∧ (nth ss i).data.toList = []) :
    outTo dir.data.toList (fun i => (grownAt ss dir j i).data.toList) (len + 1) = if E = true then [] else dir.data.toList := by
  have hne : dir.data.toList ≠ [] := fun e => by rw [e] at hc; exact absurd hc (by decide)
  have hpos : 0 < dir.data.toList.length := List.length_pos_iff.2 hne
  have hj := h.le
  have h0 : outTo dir.data.toList (fun i => (grownAt ss dir j i).data.toList) j = [] := by
    refine outTo_none (fun k hk => ?_)
    have e : grownAt ss dir j k = nth ss k := by unfold grownAt; rw [if_neg (by omega), if_pos hk]
    simp only [e]
    rcases h.none hc k (by omega) with h1 | h1
    · exact .inl h1
    · exact .inr (by unfold withinB; rw [h1, Bool.false_and])
  have key : ∀ m, j ≤ m → m ≤ len → (outTo dir.data.toList (fun i => (grownAt ss dir j i).data.toList) (m + 1) = [] ∧ rootedB dir.data.toList = true ∧ ∃ i, j ≤ i ∧ i < m ∧ (nth ss i).data.toList = []) ∨ (outTo dir.data.toList (fun i => (grownAt ss dir j i).data.toList) (m + 1) = dir.data.toList ∧ ¬ (rootedB dir.data.toList = true ∧ ∃ i, j ≤ i ∧ i < m ∧ (nth ss i).data.toList = [])) := by
    intro m
    induction m with
    | zero =>
      intro h1 h2
      have ej : j = 0 := by omega
      subst ej
      right
      have e : grownAt ss dir 0 0 = dir := by unfold grownAt; rw [if_pos rfl]
      refine ⟨?_, fun hh => by obtain ⟨_, i, _, h3, _⟩ := hh; omega⟩
      unfold outTo
      simp only [e]
      rw [if_pos ⟨by unfold withinB; rw [under_self, hc]; rfl, .inl h0⟩]
    | succ m ih =>
      intro h1 h2
      by_cases hjm : j = m + 1
      · subst hjm
        right
        have e : grownAt ss dir (m + 1) (m + 1) = dir := by unfold grownAt; rw [if_pos rfl]
        refine ⟨?_, fun hh => by obtain ⟨_, i, _, h3, _⟩ := hh; omega⟩
        rw [outTo]
        simp only [e]
        rw [if_pos ⟨by unfold withinB; rw [under_self, hc]; rfl, .inl h0⟩]
      · have ih' := ih (by omega) (by omega)
        have e : grownAt ss dir j (m + 1) = nth ss m := by unfold grownAt; rw [if_neg (by omega), if_neg (by omega)]; rfl
        rw [outTo]
        simp only [e]
        rcases h.none hc m (by omega) with h3 | h3
        · rw [h3, within_empty hc]
          cases hro : rootedB dir.data.toList with
          | false =>
            right
            refine ⟨?_, fun hh => absurd hh.1 (by decide)⟩
            rw [if_neg (by intro hh; exact absurd hh.1 (by decide))]
            rcases ih' with ⟨_, h5, _⟩ | ⟨h5, _⟩
            · rw [hro] at h5; exact absurd h5 (by decide)
            · exact h5
          | true =>
            left
            refine ⟨?_, rfl, m, by omega, by omega, h3⟩
            have hcd : outTo dir.data.toList (fun i => (grownAt ss dir j i).data.toList) (m + 1) = [] ∨ ([] : List UInt8).length < (outTo dir.data.toList (fun i => (grownAt ss dir j i).data.toList) (m + 1)).length := by
              rcases ih' with ⟨h5, _⟩ | ⟨h5, _⟩
              · exact .inl h5
              · right; rw [h5]; exact hpos
            rw [if_pos ⟨rfl, hcd⟩]
        · by_cases h4 : (nth ss m).data.toList = []
          · rw [h4] at h3 ⊢
            have hro : rootedB dir.data.toList = false := by
              rw [← within_empty hc]; unfold withinB; rw [h3, Bool.false_and]
            rw [within_empty hc, hro]
            right
            refine ⟨?_, fun hh => absurd hh.1 (by decide)⟩
            rw [if_neg (by intro hh; exact absurd hh.1 (by decide))]
            rcases ih' with ⟨_, h5, _⟩ | ⟨h5, _⟩
            · rw [hro] at h5; exact absurd h5 (by decide)
            · exact h5
          · have hw : withinB dir.data.toList (nth ss m).data.toList = false := by unfold withinB; rw [h3, Bool.false_and]
            rw [hw, if_neg (by intro hh; exact absurd hh.1 (by decide))]
            rcases ih' with ⟨h5, h6, i, h7, h8, h9⟩ | ⟨h5, h6⟩
            · exact .inl ⟨h5, h6, i, h7, by omega, h9⟩
            · refine .inr ⟨h5, fun hh => h6 ?_⟩
              obtain ⟨h7, i, h8, h9, h10⟩ := hh
              refine ⟨h7, i, h8, ?_, h10⟩
              rcases Nat.lt_or_ge i m with h11 | h11
              · exact h11
              · have : i = m := by omega
                subst this
                exact absurd h10 h4
  rcases key len hj (Nat.le_refl _) with ⟨h5, h6⟩ | ⟨h5, h6⟩
  · rw [h5, if_pos (hE.2 h6)]
  · rw [h5, if_neg (fun hh => h6 (hE.1 hh))]
end Go.Proofs.Qxb6627514a
