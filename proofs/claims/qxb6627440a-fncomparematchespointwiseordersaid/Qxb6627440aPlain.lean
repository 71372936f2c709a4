/-
  The plain law: no Go in sight: two maps whose keys all stand in a list of distinct keys.
-/
import Derived.Test.Qxb6627440aCmp
namespace Go.Proofs.Qxb6627440a
open Go.RowKit

theorem less_irrefl : ∀ a : List UInt8, Op.bytesLess a a = false
  | [] => rfl
  | a :: x => by
    have := less_irrefl x
    simp [Op.bytesLess, this]
theorem less_trans : ∀ a b c : List UInt8, Op.bytesLess a b = true → Op.bytesLess b c = true → Op.bytesLess a c = true
  | _, _, [], _, h2 => by simp [Op.bytesLess] at h2
  | _, [], _ :: _, h1, _ => by simp [Op.bytesLess] at h1
  | [], _ :: _, _ :: _, _, _ => rfl
  | a :: x, b :: y, c :: z, h1, h2 => by
    simp only [Op.bytesLess, Bool.or_eq_true, Bool.and_eq_true, decide_eq_true_eq, beq_iff_eq] at h1 h2 ⊢
    rcases h1 with h1 | ⟨rfl, h1⟩
    · rcases h2 with h2 | ⟨rfl, h2⟩
      · exact .inl (UInt8.lt_trans h1 h2)
      · exact .inl h1
    · rcases h2 with h2 | ⟨rfl, h2⟩
      · exact .inl h2
      · exact .inr ⟨rfl, less_trans x y z h1 h2⟩

/-- Distinct: by place. -/
def Dist (len : Nat) (ss : List ByteArray) : Prop := ∀ i j, i < j → j < len → nth ss i ≠ nth ss j
theorem dist_of {len : Nat} {ss : List ByteArray} (h : ∀ k, k + 1 < len → Op.bytesLess (nth ss k).toList (nth ss (k + 1)).toList = true) : Dist len ss := by
  have step : ∀ d i, i + d + 1 < len → Op.bytesLess (nth ss i).toList (nth ss (i + d + 1)).toList = true := by
    intro d
    induction d with
    | zero => intro i hi; exact h i hi
    | succ d ih => intro i hi; exact less_trans _ _ _ (ih i (by omega)) (h (i + d + 1) hi)
  intro i j hij hj e
  have h1 := step (j - i - 1) i (by omega)
  have e2 : i + (j - i - 1) + 1 = j := by omega
  rw [e2, e, less_irrefl] at h1
  exact absurd h1 (by decide)

def occ (x : ByteArray) : List ByteArray → Nat
  | [] => 0
  | s :: r => (if x = s then 1 else 0) + occ x r
theorem occ_zero {x : ByteArray} : ∀ {ss : List ByteArray}, x ∉ ss → occ x ss = 0
  | [], _ => rfl
  | s :: r, h => by
    have h1 : ¬ x = s := fun e => h (by rw [e]; exact List.mem_cons_self)
    have h2 := occ_zero (ss := r) (fun e => h (List.mem_cons_of_mem _ e))
    simp only [occ, if_neg h1, h2]
theorem occ_le {x : ByteArray} : ∀ {ss : List ByteArray}, ss.Pairwise (fun a b => a ≠ b) → occ x ss ≤ 1
  | [], _ => Nat.zero_le _
  | s :: r, h => by
    rw [List.pairwise_cons] at h
    by_cases e : x = s
    · subst e
      have := occ_zero (x := x) (ss := r) (fun hm => h.1 x hm rfl)
      simp only [occ, this]
      simp
    · have := occ_le (x := x) h.2
      simp only [occ, if_neg e]
      omega
theorem pairwise_of_dist {ss : List ByteArray} (h : Dist ss.length ss) : ss.Pairwise (fun a b => a ≠ b) := by
  rw [List.pairwise_iff_getElem]
  intro i j hi hj hij e
  exact h i j hij hj (by simp [nth, List.getElem?_eq_getElem hi, List.getElem?_eq_getElem hj, e])

theorem cnt_cons (p : ByteArray × Int) (L : List (ByteArray × Int)) (ss : List ByteArray) : cnt (p :: L) ss ≤ occ p.1 ss + cnt L ss := by
  induction ss with
  | nil => simp [cnt, occ]
  | cons s r ih =>
    simp only [cnt, occ, hasK]
    by_cases e : p.1 = s
    · simp only [if_pos e, if_true]
      omega
    · simp only [if_neg e]
      omega
theorem cnt_nil (ss : List ByteArray) : cnt [] ss = 0 := by
  induction ss with
  | nil => rfl
  | cons s r ih => simp [cnt, hasK, ih]
theorem cnt_bound {ss : List ByteArray} (hp : ss.Pairwise (fun a b => a ≠ b)) : ∀ L : List (ByteArray × Int), cnt L ss ≤ L.length
  | [] => by rw [cnt_nil]; exact Nat.zero_le _
  | p :: L => by
    have h1 := cnt_cons p L ss
    have h2 := cnt_bound hp L
    have h3 := occ_le (x := p.1) hp
    simp only [List.length_cons]
    omega
theorem cnt_short {ss : List ByteArray} (hp : ss.Pairwise (fun a b => a ≠ b)) : ∀ L : List (ByteArray × Int), ∀ p ∈ L, p.1 ∉ ss → cnt L ss < L.length
  | q :: L, p, hm, hn => by
    have h1 := cnt_cons q L ss
    have h3 := occ_le (x := q.1) hp
    simp only [List.length_cons]
    rcases List.mem_cons.1 hm with rfl | h
    · have h2 := cnt_bound hp L
      have h4 := occ_zero hn
      omega
    · have h2 := cnt_short hp L p h hn
      omega
theorem cover_of {ss : List ByteArray} (hp : Dist ss.length ss) {L : List (ByteArray × Int)} (h : cnt L ss = L.length) : ∀ p ∈ L, ∃ k, k < ss.length ∧ nth ss k = p.1 := by
  intro p hm
  have hin : p.1 ∈ ss := Classical.byContradiction fun hn => by
    have := cnt_short (pairwise_of_dist hp) L p hm hn
    omega
  obtain ⟨k, hk, e⟩ := List.mem_iff_getElem.1 hin
  exact ⟨k, hk, by simp [nth, List.getElem?_eq_getElem hk, e]⟩

/-- What is asked of a map as a list of pairs. -/
structure Good (L : List (ByteArray × Int)) : Prop where
  at_ : ∀ p ∈ L, look L p.1 = p.2 ∧ hasK L p.1 = true
  pos : ∀ s, 0 ≤ look L s
theorem has_mem : ∀ (L : List (ByteArray × Int)) (s : ByteArray), hasK L s = true → ∃ p ∈ L, p.1 = s
  | [], _, h => by simp [hasK] at h
  | p :: L, s, h => by
    by_cases e : p.1 = s
    · exact ⟨p, List.mem_cons_self, e⟩
    · simp only [hasK, if_neg e] at h
      obtain ⟨q, hq, e2⟩ := has_mem L s h
      exact ⟨q, List.mem_cons_of_mem _ hq, e2⟩
theorem not_has : ∀ (L : List (ByteArray × Int)) (s : ByteArray), hasK L s = false → look L s = 0
  | [], _, _ => rfl
  | p :: L, s, h => by
    by_cases e : p.1 = s
    · simp [hasK, if_pos e] at h
    · simp only [hasK, look, if_neg e] at h ⊢
      exact not_has L s h
theorem anyP_iff (p : ByteArray × Int → Bool) : ∀ L : List (ByteArray × Int), anyP p L = true ↔ ∃ x ∈ L, p x = true
  | [] => by simp [anyP]
  | x :: L => by simp [anyP, anyP_iff p L]

theorem below_iff {ss : List ByteArray} (hp : Dist ss.length ss) {L M : List (ByteArray × Int)} (gL : Good L) (gM : Good M) (cL : cnt L ss = L.length) (cM : cnt M ss = M.length) :
    ((anyP (ltP M) L || anyP (newP L) M) = true) ↔ ∃ k, k < ss.length ∧ look L (nth ss k) < look M (nth ss k) := by
  rw [Bool.or_eq_true, anyP_iff, anyP_iff]
  constructor
  · rintro (⟨p, hm, h⟩ | ⟨p, hm, h⟩)
    · obtain ⟨k, hk, e⟩ := cover_of hp cL p hm
      have h1 := (gL.at_ p hm).1
      simp only [ltP, decide_eq_true_eq] at h
      exact ⟨k, hk, by rw [e, h1]; exact h⟩
    · obtain ⟨k, hk, e⟩ := cover_of hp cM p hm
      have h1 := (gM.at_ p hm).1
      simp only [newP, Bool.and_eq_true, Bool.not_eq_true', decide_eq_true_eq] at h
      exact ⟨k, hk, by rw [e, h1, not_has L p.1 h.1]; exact h.2⟩
  · rintro ⟨k, hk, h⟩
    cases hh : hasK L (nth ss k) with
    | true =>
      obtain ⟨p, hm, e⟩ := has_mem L _ hh
      have h1 := (gL.at_ p hm).1
      exact .inl ⟨p, hm, by simp only [ltP, decide_eq_true_eq]; rw [← h1, e]; exact h⟩
    | false =>
      have h0 := not_has L _ hh
      cases h2 : hasK M (nth ss k) with
      | false => have := not_has M _ h2; omega
      | true =>
        obtain ⟨p, hm, e⟩ := has_mem M _ h2
        have h1 := (gM.at_ p hm).1
        refine .inr ⟨p, hm, ?_⟩
        simp only [newP, Bool.and_eq_true, Bool.not_eq_true', decide_eq_true_eq]
        rw [e]
        exact ⟨hh, by rw [← h1, e]; omega⟩
theorem above_iff {ss : List ByteArray} (hp : Dist ss.length ss) {L M : List (ByteArray × Int)} (gL : Good L) (gM : Good M) (cL : cnt L ss = L.length) :
    (anyP (gtP M) L = true) ↔ ∃ k, k < ss.length ∧ look M (nth ss k) < look L (nth ss k) := by
  rw [anyP_iff]
  constructor
  · rintro ⟨p, hm, h⟩
    obtain ⟨k, hk, e⟩ := cover_of hp cL p hm
    have h1 := (gL.at_ p hm).1
    simp only [gtP, decide_eq_true_eq] at h
    exact ⟨k, hk, by rw [e, h1]; exact h⟩
  · rintro ⟨k, hk, h⟩
    have hpos := gM.pos (nth ss k)
    cases hh : hasK L (nth ss k) with
    | true =>
      obtain ⟨p, hm, e⟩ := has_mem L _ hh
      have h1 := (gL.at_ p hm).1
      exact ⟨p, hm, by simp only [gtP, decide_eq_true_eq]; rw [← h1, e]; exact h⟩
    | false => have h0 := not_has L _ hh; omega

theorem compare_law {ss : List ByteArray} (hp : Dist ss.length ss) {L M : List (ByteArray × Int)} (gL : Good L) (gM : Good M) (cL : cnt L ss = L.length) (cM : cnt M ss = M.length) {r1 r2 : Bool}
    (h1 : r1 = true ↔ ∀ k, k < ss.length → look L (nth ss k) ≤ look M (nth ss k)) (h2 : r2 = true ↔ ∀ k, k < ss.length → look M (nth ss k) ≤ look L (nth ss k)) :
    cmpV L M = if r1 && r2 then 0 else if r1 then 1 else if r2 then 2 else 3 := by
  have hb : (anyP (ltP M) L || anyP (newP L) M) = !r2 := by
    rw [Bool.eq_iff_iff, below_iff hp gL gM cL cM, Bool.not_eq_true', ← Bool.not_eq_true, h2]
    constructor
    · rintro ⟨k, hk, h⟩ h3
      have := h3 k hk
      omega
    · intro h
      refine Classical.byContradiction fun hn => h fun k hk => ?_
      refine Classical.byContradiction fun h4 => hn ⟨k, hk, by omega⟩
  have ha : anyP (gtP M) L = !r1 := by
    rw [Bool.eq_iff_iff, above_iff hp gL gM cL, Bool.not_eq_true', ← Bool.not_eq_true, h1]
    constructor
    · rintro ⟨k, hk, h⟩ h3
      have := h3 k hk
      omega
    · intro h
      refine Classical.byContradiction fun hn => h fun k hk => ?_
      refine Classical.byContradiction fun h4 => hn ⟨k, hk, by omega⟩
  unfold cmpV
  rw [hb, ha]
  cases r1 <;> cases r2 <;> rfl

theorem good_of {w : World} {m : Option Nat} {es : Array MapEntry} {clock : Nat} (h : MapIs w m es clock) : Good (pairs es) := by
  refine ⟨fun p hp => ?_, look_nonneg h⟩
  obtain ⟨e, he, rfl⟩ := List.mem_map.1 hp
  obtain ⟨s, v, hk, _, _, _⟩ := h.shape e he
  have := look_some h.shape ((MapKept.stamped_iff es clock).1 h.stamped).2.2 he hk
  simp only [hk, keyS]
  exact this
theorem length_pairs (es : Array MapEntry) : (pairs es).length = es.size := by simp [pairs]
end Go.Proofs.Qxb6627440a
