/-
  The plain law on clean paths, no Go in sight: a path is its own cleaning just if its segments are in order.
-/
import Derived.Lib.CleanSame
namespace Go.Proofs.Qxb6627514a
open Go.Lib Go.Lib.Pa
set_option linter.unusedVariables false

/-- Are the segments in order: none empty, none '.', '..' only as a leading run of a path that is not rooted (od: only '..' so far)? -/
def segOK (ro od : Bool) : List (List UInt8) → Bool
  | [] => true
  | e :: es => if e = [] ∨ e = [46] then false else if e = [46, 46] then (if ro = true ∨ od = false then false else segOK ro od es) else segOK ro false es

def rootedB (p : List UInt8) : Bool := p.head? == some 47
def bodyOf (p : List UInt8) : List UInt8 := if rootedB p then p.drop 1 else p
def cleanB (p : List UInt8) : Bool := p == [46] || p == [47] || segOK (rootedB p) true (els (bodyOf p))

theorem els_ne : ∀ l : List UInt8, els l ≠ []
  | [] => by simp [els]
  | c :: t => by
    have h := els_ne t
    unfold els
    split
    · simp
    · cases e : els t with
      | nil => exact absurd e h
      | cons a r => simp
theorem els_cons_ne {c : UInt8} (h : c ≠ 47) (t : List UInt8) : ∃ a r, els t = a :: r ∧ els (c :: t) = (c :: a) :: r := by
  cases e : els t with
  | nil => exact absurd e (els_ne t)
  | cons a r => exact ⟨a, r, rfl, by rw [els, if_neg h, e]⟩
theorem els_plain : ∀ s : List UInt8, 47 ∉ s → els s = [s]
  | [], _ => rfl
  | c :: t, h => by
    have hc : c ≠ 47 := fun e => h (by rw [e]; exact List.mem_cons_self)
    have ih := els_plain t (fun e => h (List.mem_cons_of_mem _ e))
    rw [els, if_neg hc, ih]
theorem els_cut : ∀ (s r : List UInt8), 47 ∉ s → els (s ++ 47 :: r) = s :: els r
  | [], r, _ => els_slash r
  | c :: t, r, h => by
    have hc : c ≠ 47 := fun e => h (by rw [e]; exact List.mem_cons_self)
    have ih := els_cut t r (fun e => h (List.mem_cons_of_mem _ e))
    rw [List.cons_append, els, if_neg hc, ih]
theorem els_free : ∀ (l : List UInt8), ∀ e ∈ els l, 47 ∉ e
  | [], e, he => by simp [els] at he; rw [he]; simp
  | c :: t, e, he => by
    by_cases hc : c = 47
    · subst hc
      rw [els_slash] at he
      rcases List.mem_cons.1 he with rfl | h
      · simp
      · exact els_free t e h
    · obtain ⟨a, r, h1, h2⟩ := els_cons_ne hc t
      rw [h2] at he
      rcases List.mem_cons.1 he with rfl | h
      · have := els_free t a (by rw [h1]; exact List.mem_cons_self)
        intro hm
        rcases List.mem_cons.1 hm with h3 | h3
        · exact hc h3.symm
        · exact this h3
      · exact els_free t e (by rw [h1]; exact List.mem_cons_of_mem _ h)

def joinS (K : List (List UInt8)) : List UInt8 := ([47] : List UInt8).intercalate K
theorem joinS_one (a : List UInt8) : joinS [a] = a := by simp [joinS, List.intercalate]
theorem joinS_cons (a b : List UInt8) (r : List (List UInt8)) : joinS (a :: b :: r) = a ++ 47 :: joinS (b :: r) := by simp [joinS, List.intercalate, List.intersperse]
theorem joinS_els : ∀ l : List UInt8, joinS (els l) = l
  | [] => by simp [els, joinS_one]
  | c :: t => by
    have ih := joinS_els t
    by_cases hc : c = 47
    · subst hc
      rw [els_slash]
      cases e : els t with
      | nil => exact absurd e (els_ne t)
      | cons a r => rw [joinS_cons, ← e, ih]; rfl
    · obtain ⟨a, r, h1, h2⟩ := els_cons_ne hc t
      rw [h1] at ih
      rw [h2]
      cases r with
      | nil => rw [joinS_one] at ih ⊢; rw [ih]
      | cons b r => rw [joinS_cons] at ih ⊢; rw [List.cons_append, ih]
theorem els_joinS : ∀ K : List (List UInt8), K ≠ [] → (∀ e ∈ K, 47 ∉ e) → els (joinS K) = K
  | [], h, _ => absurd rfl h
  | [a], _, h => by rw [joinS_one]; exact els_plain a (h a List.mem_cons_self)
  | a :: b :: r, _, h => by
    rw [joinS_cons, els_cut a _ (h a List.mem_cons_self), els_joinS (b :: r) (by simp) (fun e he => h e (List.mem_cons_of_mem _ he))]

/-! ### A list in order is left as it is -/
theorem fold_after (ro : Bool) : ∀ (es st : List (List UInt8)), segOK ro false es = true → es.foldl (cleanStep ro) st = es.reverse ++ st
  | [], st, _ => by simp
  | e :: es, st, h => by
    unfold segOK at h
    by_cases h1 : e = [] ∨ e = [46]
    · rw [if_pos h1] at h; exact absurd h (by decide)
    · rw [if_neg h1] at h
      by_cases h2 : e = [46, 46]
      · rw [if_pos h2, if_pos (.inr rfl)] at h; exact absurd h (by decide)
      · rw [if_neg h2] at h
        have hs : cleanStep ro st e = e :: st := by unfold cleanStep; rw [if_neg h1, if_neg h2]
        rw [List.foldl_cons, hs, fold_after ro es (e :: st) h]
        simp
theorem fold_lead (ro : Bool) : ∀ (es st : List (List UInt8)), (∀ x ∈ st, x = [46, 46]) → segOK ro true es = true → es.foldl (cleanStep ro) st = es.reverse ++ st
  | [], st, _, _ => by simp
  | e :: es, st, hst, h => by
    unfold segOK at h
    by_cases h1 : e = [] ∨ e = [46]
    · rw [if_pos h1] at h; exact absurd h (by decide)
    · rw [if_neg h1] at h
      by_cases h2 : e = [46, 46]
      · rw [if_pos h2] at h
        cases ro with
        | true => simp at h
        | false =>
          simp at h
          have hs : cleanStep false st e = e :: st := by
            unfold cleanStep
            rw [if_neg h1, if_pos h2]
            cases st with
            | nil => rfl
            | cons x r => simp only [if_pos (hst x List.mem_cons_self)]
          rw [List.foldl_cons, hs, fold_lead false es (e :: st) (fun x hx => by
            rcases List.mem_cons.1 hx with rfl | hx
            · exact h2
            · exact hst x hx) h]
          simp
      · rw [if_neg h2] at h
        have hs : cleanStep ro st e = e :: st := by unfold cleanStep; rw [if_neg h1, if_neg h2]
        rw [List.foldl_cons, hs, fold_after ro es (e :: st) h]
        simp

/-! ### What the rules leave is in order. 'Kept': the elements kept so far, the last first. -/
def Plain (e : List UInt8) : Prop := ¬ (e = [] ∨ e = [46]) ∧ e ≠ [46, 46]
/-- Kept: plain elements on top of a run of '..' (no '..' where rooted). -/
def Kept (ro : Bool) (st : List (List UInt8)) : Prop := ∃ A n, st = A ++ List.replicate n [46, 46] ∧ (∀ e ∈ A, Plain e) ∧ (ro = true → n = 0)
theorem kept_step {ro : Bool} {st : List (List UInt8)} (h : Kept ro st) (e : List UInt8) : Kept ro (cleanStep ro st e) := by
  obtain ⟨A, n, rfl, hA, hn⟩ := h
  unfold cleanStep
  by_cases h1 : e = [] ∨ e = [46]
  · rw [if_pos h1]; exact ⟨A, n, rfl, hA, hn⟩
  · rw [if_neg h1]
    by_cases h2 : e = [46, 46]
    · rw [if_pos h2]
      cases A with
      | nil =>
        cases n with
        | zero =>
          simp only [List.replicate_zero, List.append_nil]
          cases ro with
          | true => exact ⟨[], 0, rfl, by simp, fun _ => rfl⟩
          | false => exact ⟨[], 1, by simp [h2], by simp, by simp⟩
        | succ n =>
          simp only [List.nil_append, List.replicate_succ, if_true]
          exact ⟨[], n + 2, by rw [h2]; rfl, by simp, fun h => absurd (hn h) (by omega)⟩
      | cons x A =>
        have hx := hA x List.mem_cons_self
        simp only [List.cons_append, if_neg hx.2]
        exact ⟨A, n, rfl, fun y hy => hA y (List.mem_cons_of_mem _ hy), hn⟩
    · rw [if_neg h2]
      exact ⟨e :: A, n, rfl, fun y hy => by
        rcases List.mem_cons.1 hy with rfl | hy
        · exact ⟨h1, h2⟩
        · exact hA y hy, hn⟩
theorem kept_fold {ro : Bool} : ∀ (es st : List (List UInt8)), Kept ro st → Kept ro (es.foldl (cleanStep ro) st)
  | [], _, h => h
  | e :: es, st, h => kept_fold es _ (kept_step h e)
theorem segOK_plain (ro od : Bool) : ∀ B : List (List UInt8), (∀ e ∈ B, Plain e) → segOK ro od B = true
  | [], _ => rfl
  | e :: B, h => by
    have he := h e List.mem_cons_self
    unfold segOK
    rw [if_neg he.1, if_neg he.2]
    exact segOK_plain ro false B (fun y hy => h y (List.mem_cons_of_mem _ hy))
theorem segOK_kept {ro : Bool} {st : List (List UInt8)} (h : Kept ro st) : segOK ro true st.reverse = true := by
  obtain ⟨A, n, rfl, hA, hn⟩ := h
  rw [List.reverse_append, List.reverse_replicate]
  have hB : ∀ e ∈ A.reverse, Plain e := fun e he => hA e (List.mem_reverse.1 he)
  generalize A.reverse = B at hB
  cases ro with
  | true =>
    rw [hn rfl]
    exact segOK_plain true true B hB
  | false =>
    clear hn
    induction n with
    | zero => exact segOK_plain false true B hB
    | succ n ih =>
      rw [List.replicate_succ, List.cons_append]
      unfold segOK
      simp
      exact ih
theorem free_step {ro : Bool} {st : List (List UInt8)} {e : List UInt8} (h : ∀ x ∈ st, 47 ∉ x) (he : 47 ∉ e) : ∀ x ∈ cleanStep ro st e, 47 ∉ x := by
  unfold cleanStep
  split
  · exact h
  · split
    · cases st with
      | nil =>
        cases ro with
        | true => intro x hx; simp at hx
        | false => intro x hx; simp at hx; rw [hx]; exact he
      | cons a r =>
        simp only []
        split
        · intro x hx
          rcases List.mem_cons.1 hx with rfl | hx
          · exact he
          · exact h x hx
        · intro x hx
          exact h x (List.mem_cons_of_mem _ hx)
    · intro x hx
      rcases List.mem_cons.1 hx with rfl | hx
      · exact he
      · exact h x hx
theorem free_fold {ro : Bool} : ∀ (es st : List (List UInt8)), (∀ x ∈ st, 47 ∉ x) → (∀ x ∈ es, 47 ∉ x) → ∀ x ∈ es.foldl (cleanStep ro) st, 47 ∉ x
  | [], _, h, _ => h
  | e :: es, st, h, hes => free_fold es _ (free_step h (hes e List.mem_cons_self)) (fun x hx => hes x (List.mem_cons_of_mem _ hx))

theorem segOK_ne_nil {ro od : Bool} {K : List (List UInt8)} (h : segOK ro od K = true) : ∀ e ∈ K, e ≠ [] := by
  induction K generalizing od with
  | nil => simp
  | cons x K ih =>
    unfold segOK at h
    by_cases h1 : x = [] ∨ x = [46]
    · rw [if_pos h1] at h; exact absurd h (by decide)
    · rw [if_neg h1] at h
      intro e he
      rcases List.mem_cons.1 he with rfl | he
      · exact fun e0 => h1 (.inl e0)
      · by_cases h2 : x = [46, 46]
        · rw [if_pos h2] at h
          split at h
          · exact absurd h (by decide)
          · exact ih h e he
        · rw [if_neg h2] at h
          exact ih h e he

theorem cleanB_iff (p : List UInt8) : cleanB p = true ↔ cleanEls p = p := by
  unfold cleanB
  simp only [Bool.or_eq_true, beq_iff_eq]
  constructor
  · rintro ((rfl | rfl) | h)
    · decide
    · decide
    · by_cases hne : p = []
      · subst hne
        simp [rootedB, bodyOf, els, segOK] at h
      · cases hro : (p.head? == some 47) with
        | true =>
          have hr : rootedB p = true := hro
          rw [cleanEls_abs p hne hro]
          unfold bodyOf at h
          rw [hr, if_pos rfl] at h
          cases p with
          | nil => exact absurd rfl hne
          | cons c t =>
            have hc : c = 47 := by simpa using hro
            subst hc
            rw [List.drop_one, List.tail_cons] at h
            rw [els_slash, List.foldl_cons]
            have hs : cleanStep true [] [] = [] := rfl
            rw [hs, fold_lead true (els t) [] (by simp) h]
            simp only [List.append_nil, List.reverse_reverse]
            show 47 :: joinS (els t) = _
            rw [joinS_els]
        | false =>
          have hr : rootedB p = false := hro
          rw [cleanEls_rel p hne hro]
          unfold bodyOf at h
          rw [hr, if_neg (by decide)] at h
          rw [fold_lead false (els p) [] (by simp) h]
          simp only [List.append_nil, List.reverse_reverse]
          show (if joinS (els p) = [] then [46] else joinS (els p)) = p
          rw [joinS_els, if_neg hne]
  · intro h
    by_cases hne : p = []
    · subst hne; exact absurd h (by decide)
    · cases hro : (p.head? == some 47) with
      | true =>
        have hr : rootedB p = true := hro
        rw [cleanEls_abs p hne hro] at h
        have hk := kept_fold (ro := true) (els p) [] ⟨[], 0, rfl, by simp, fun _ => rfl⟩
        have hf := free_fold (ro := true) (els p) [] (by simp) (els_free p)
        have hok := segOK_kept hk
        generalize (els p).foldl (cleanStep true) [] = st at *
        change 47 :: joinS st.reverse = p at h
        by_cases hs : st = []
        · subst hs
          left; right
          rw [← h]; rfl
        · right
          rw [hr]
          unfold bodyOf
          rw [hr, if_pos rfl, ← h, List.drop_one, List.tail_cons, els_joinS _ (by simpa using hs) (fun e he => hf e (List.mem_reverse.1 he))]
          exact hok
      | false =>
        have hr : rootedB p = false := hro
        rw [cleanEls_rel p hne hro] at h
        have hk := kept_fold (ro := false) (els p) [] ⟨[], 0, rfl, by simp, fun _ => rfl⟩
        have hf := free_fold (ro := false) (els p) [] (by simp) (els_free p)
        have hok := segOK_kept hk
        generalize (els p).foldl (cleanStep false) [] = st at *
        change (if joinS st.reverse = [] then [46] else joinS st.reverse) = p at h
        by_cases hs : joinS st.reverse = []
        · rw [if_pos hs] at h
          left; left
          exact h.symm
        · rw [if_neg hs] at h
          right
          have hst : st.reverse ≠ [] := fun e => hs (by rw [e]; rfl)
          rw [hr]
          unfold bodyOf
          rw [hr, if_neg (by decide)]
          have e1 : els p = st.reverse := by rw [← h]; exact els_joinS _ hst (fun e he => hf e (List.mem_reverse.1 he))
          rw [e1]
          exact hok
end Go.Proofs.Qxb6627514a
