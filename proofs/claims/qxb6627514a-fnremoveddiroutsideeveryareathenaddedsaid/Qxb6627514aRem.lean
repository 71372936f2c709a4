/-
  The plain law on RemovedDir, no Go in sight.
-/
import Derived.Test.Qxb6627514aClean
namespace Go.Proofs.Qxb6627514a
open Go.Lib Go.Lib.Pa
set_option linter.unusedVariables false

/-- p is the folder d or lies in it, by its text alone. -/
def underB (d p : List UInt8) : Bool := p == d || hasPrefix p (d ++ [47])
def withinB (p d : List UInt8) : Bool := underB d p && cleanB p
/-- The outermost folder so far, behind n areas. -/
def outTo (dir : List UInt8) (g : Nat → List UInt8) : Nat → List UInt8
  | 0 => []
  | n + 1 => if withinB dir (g n) = true ∧ (outTo dir g n = [] ∨ (g n).length < (outTo dir g n).length) then g n else outTo dir g n
def sufR : List UInt8 := [45, 114, 101, 109, 111, 118, 101, 100]
def remOf (o dir : List UInt8) : List UInt8 := o ++ sufR ++ dir.drop o.length

theorem prefix_iff (s p : List UInt8) : hasPrefix s p = true ↔ p <+: s := by
  unfold hasPrefix
  exact List.isPrefixOf_iff_prefix
theorem under_iff (d p : List UInt8) : underB d p = true ↔ p = d ∨ d ++ [47] <+: p := by
  unfold underB
  rw [Bool.or_eq_true, beq_iff_eq, prefix_iff]
theorem under_prefix {d p : List UInt8} (h : underB d p = true) : d <+: p := by
  rcases (under_iff d p).1 h with rfl | h
  · exact List.prefix_refl _
  · exact (List.prefix_append d [47]).trans h
theorem under_self (p : List UInt8) : underB p p = true := (under_iff p p).2 (.inl rfl)
theorem under_len {d p : List UInt8} (h : underB d p = true) : d.length ≤ p.length := (under_prefix h).length_le

theorem outTo_prefix (dir : List UInt8) (g : Nat → List UInt8) : ∀ n, outTo dir g n <+: dir
  | 0 => List.nil_prefix
  | n + 1 => by
    unfold outTo
    split
    · rename_i h
      have h1 := h.1
      unfold withinB at h1
      rw [Bool.and_eq_true] at h1
      exact under_prefix h1.1
    · exact outTo_prefix dir g n

/-- Nothing but empty folders holds dir: none is chosen. -/
theorem outTo_none {dir : List UInt8} {g : Nat → List UInt8} {n : Nat} (h : ∀ k, k < n → g k = [] ∨ withinB dir (g k) = false) : outTo dir g n = [] := by
  induction n with
  | zero => rfl
  | succ n ih =>
    have ih' := ih (fun k hk => h k (by omega))
    unfold outTo
    split
    · rename_i h1
      rcases h n (by omega) with h2 | h2
      · exact h2
      · rw [h2] at h1; exact absurd h1.1 (by decide)
    · exact ih'

/-- The outermost is root, wherever it stands in the list. -/
theorem outTo_root {dir root : List UInt8} {g : Nat → List UInt8} {n i : Nat} (hi : i < n) (hg : g i = root) (hne : root ≠ []) (hw : withinB dir root = true) (h : ∀ k, k < n → withinB dir (g k) = true → g k = root ∨ root.length < (g k).length) : outTo dir g n = root := by
  have hpos : 0 < root.length := List.length_pos_iff.2 hne
  have key : ∀ m, m ≤ n → (i < m → outTo dir g m = root) ∧ (outTo dir g m = [] ∨ outTo dir g m = root ∨ root.length < (outTo dir g m).length) := by
    intro m
    induction m with
    | zero => intro _; exact ⟨fun h => by omega, .inl rfl⟩
    | succ m ih =>
      intro hm
      obtain ⟨h1, h2⟩ := ih (by omega)
      have hk := h m (by omega)
      by_cases hc : withinB dir (g m) = true ∧ (outTo dir g m = [] ∨ (g m).length < (outTo dir g m).length)
      · have e : outTo dir g (m + 1) = g m := by rw [outTo, if_pos hc]
        rw [e]
        rcases hk hc.1 with h3 | h3
        · exact ⟨fun _ => h3, .inr (.inl h3)⟩
        · refine ⟨fun hlt => ?_, .inr (.inr h3)⟩
          rcases Nat.lt_or_ge i m with h4 | h4
          · have h5 := h1 h4
            rcases hc.2 with h6 | h6
            · rw [h5] at h6; exact absurd h6 hne
            · rw [h5] at h6; omega
          · have : i = m := by omega
            subst this
            rw [hg] at h3
            omega
      · have e : outTo dir g (m + 1) = outTo dir g m := by rw [outTo, if_neg hc]
        rw [e]
        refine ⟨fun hlt => ?_, h2⟩
        rcases Nat.lt_or_ge i m with h4 | h4
        · exact h1 h4
        · have : i = m := by omega
          subst this
          rcases h2 with h5 | h5 | h5
          · exact absurd ⟨by rw [hg]; exact hw, .inl h5⟩ hc
          · exact h5
          · exact absurd ⟨by rw [hg]; exact hw, .inr (by rw [hg]; exact h5)⟩ hc
  exact (key n (Nat.le_refl _)).1 hi

/-! ### A clean path below a clean path is clean -/
theorem segOK_append {ro od : Bool} {A B : List (List UInt8)} (hA : segOK ro od A = true) (hB : segOK false false B = true) : segOK ro od (A ++ B) = true := by
  induction A generalizing od with
  | nil =>
    clear hA
    show segOK ro od B = true
    have gen : ∀ (ro od : Bool) (B : List (List UInt8)), segOK false false B = true → segOK ro od B = true := by
      intro ro od B
      induction B generalizing ro od with
      | nil => intro _; rfl
      | cons x B ih =>
        intro h
        unfold segOK at h ⊢
        by_cases h1 : x = [] ∨ x = [46]
        · rw [if_pos h1] at h; exact absurd h (by decide)
        · rw [if_neg h1] at h ⊢
          by_cases h2 : x = [46, 46]
          · rw [if_pos h2, if_pos (.inr rfl)] at h; exact absurd h (by decide)
          · rw [if_neg h2] at h ⊢
            exact ih ro false h
    exact gen ro od B hB
  | cons x A ih =>
    unfold segOK at hA
    rw [List.cons_append]
    unfold segOK
    by_cases h1 : x = [] ∨ x = [46]
    · rw [if_pos h1] at hA; exact absurd hA (by decide)
    · rw [if_neg h1] at hA ⊢
      by_cases h2 : x = [46, 46]
      · rw [if_pos h2] at hA ⊢
        by_cases h3 : ro = true ∨ od = false
        · rw [if_pos h3] at hA; exact absurd hA (by decide)
        · rw [if_neg h3] at hA ⊢
          exact ih hA
      · rw [if_neg h2] at hA ⊢
        exact ih hA
theorem joinS_append {A B : List (List UInt8)} (hA : A ≠ []) (hB : B ≠ []) : joinS (A ++ B) = joinS A ++ 47 :: joinS B := by
  induction A with
  | nil => exact absurd rfl hA
  | cons a A ih =>
    cases A with
    | nil =>
      cases B with
      | nil => exact absurd rfl hB
      | cons b B => rw [List.singleton_append, joinS_cons, joinS_one]
    | cons a2 A =>
      have := ih (by simp)
      rw [List.cons_append, List.cons_append, joinS_cons, ← List.cons_append, this, joinS_cons, List.append_assoc, List.cons_append]
theorem els_below (r t : List UInt8) : els (r ++ 47 :: t) = els r ++ els t := by
  have h : joinS (els r ++ els t) = r ++ 47 :: t := by rw [joinS_append (els_ne r) (els_ne t), joinS_els, joinS_els]
  rw [← h]
  exact els_joinS _ (by simp [els_ne]) (fun e he => by
    rcases List.mem_append.1 he with h1 | h1
    · exact els_free r e h1
    · exact els_free t e h1)

/-- A relative tail: clean, not '.', not '..', not opening '../': no '..' in it at all. -/
theorem tail_plain {t : List UInt8} (hc : cleanB t = true) (hr : rootedB t = false) (h1 : t ≠ [46]) (h2 : t ≠ [46, 46]) (h3 : hasPrefix t [46, 46, 47] = false) : segOK false false (els t) = true := by
  unfold cleanB at hc
  rw [Bool.or_eq_true, Bool.or_eq_true, beq_iff_eq, beq_iff_eq] at hc
  rcases hc with (hc | hc) | hc
  · exact absurd hc h1
  · subst hc; exact absurd hr (by decide)
  · unfold bodyOf at hc
    rw [hr, if_neg (by decide)] at hc
    cases e : els t with
    | nil => rfl
    | cons x r =>
      rw [e] at hc
      unfold segOK at hc ⊢
      by_cases h4 : x = [] ∨ x = [46]
      · rw [if_pos h4] at hc; exact absurd hc (by decide)
      · rw [if_neg h4] at hc ⊢
        by_cases h5 : x = [46, 46]
        · exfalso
          have hj := joinS_els t
          rw [e, h5] at hj
          cases r with
          | nil => rw [joinS_one] at hj; exact h2 hj.symm
          | cons b r =>
            rw [joinS_cons] at hj
            have : hasPrefix t [46, 46, 47] = true := (prefix_iff _ _).2 ⟨joinS (b :: r), by rw [← hj]; rfl⟩
            rw [this] at h3
            exact absurd h3 (by decide)
        · rw [if_neg h5] at hc ⊢
          exact hc

theorem clean_below {r t : List UInt8} (hr : cleanB r = true) (h1 : r ≠ [46]) (h2 : r ≠ [47]) (ht : segOK false false (els t) = true) : cleanB (r ++ 47 :: t) = true := by
  unfold cleanB at hr ⊢
  rw [Bool.or_eq_true, Bool.or_eq_true, beq_iff_eq, beq_iff_eq] at hr
  rcases hr with (hr | hr) | hr
  · exact absurd hr h1
  · exact absurd hr h2
  · rw [Bool.or_eq_true]
    right
    cases r with
    | nil => exact absurd hr (by decide)
    | cons c r =>
      have e1 : rootedB (c :: r ++ 47 :: t) = rootedB (c :: r) := rfl
      have e2 : bodyOf (c :: r ++ 47 :: t) = bodyOf (c :: r) ++ 47 :: t := by
        unfold bodyOf
        rw [e1]
        split <;> rfl
      rw [e1, e2, els_below]
      exact segOK_append hr ht
end Go.Proofs.Qxb6627514a
