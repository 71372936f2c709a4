/-
  The walk of (Vector).Compare.
-/
import Derived.Test.Qxb6627440aKeys
namespace Go.Proofs.Qxb6627440a
open Go.ChangeShapes Go.WideShapes Go.ChangeAt Go.RowKit Go.WideMaps Go.WideElems

/-- Does one of the entries that have been handed out meet p? -/
def anySeen (p : ByteArray × Int → Bool) : List MapEntry → Array Nat → Bool
  | [], _ => false
  | x :: l, seen => (seen.contains x.born && p (keyS x.key, valOf x.val)) || anySeen p l seen
def anyP (p : ByteArray × Int → Bool) : List (ByteArray × Int) → Bool
  | [] => false
  | x :: l => p x || anyP p l

theorem anySeen_none (p : ByteArray × Int → Bool) (es : List MapEntry) : anySeen p es #[] = false := by
  induction es with
  | nil => rfl
  | cons x l ih => simp [anySeen, ih]
theorem anySeen_other (p : ByteArray × Int → Bool) (seen : Array Nat) (b : Nat) : ∀ (es : List MapEntry), b ∉ es.map (·.born) → anySeen p es (seen.push b) = anySeen p es seen
  | [], _ => rfl
  | x :: l, h => by
    have hx : (x.born == b) = false := by
      cases hc : x.born == b with
      | false => rfl
      | true => exact absurd (List.mem_cons.2 (Or.inl (beq_iff_eq.1 hc).symm)) h
    have ih := anySeen_other p seen b l (fun e => h (List.mem_cons.2 (Or.inr e)))
    simp only [anySeen, contains_push, hx, Bool.or_false, ih]
theorem anySeen_push (p : ByteArray × Int → Bool) (seen : Array Nat) (e : MapEntry) : ∀ (es : List MapEntry), (es.map (·.born)).Nodup → e ∈ es → anySeen p es (seen.push e.born) = (anySeen p es seen || p (keyS e.key, valOf e.val))
  | x :: l, hn, he => by
    have hn' : x.born ∉ l.map (·.born) ∧ (l.map (·.born)).Nodup := List.nodup_cons.1 hn
    rcases List.mem_cons.1 he with rfl | h
    · simp only [anySeen, contains_push, beq_self_eq_true, Bool.or_true, Bool.true_and, anySeen_other p seen e.born l hn'.1]
      cases seen.contains e.born <;> cases p (keyS e.key, valOf e.val) <;> simp
    · have hx : (x.born == e.born) = false := by
        cases hc : x.born == e.born with
        | false => rfl
        | true => exact absurd (by rw [beq_iff_eq.1 hc]; exact List.mem_map.2 ⟨e, h, rfl⟩) hn'.1
      simp only [anySeen, contains_push, hx, Bool.or_false, anySeen_push p seen e l hn'.2 h, Bool.or_assoc]
theorem anySeen_all (p : ByteArray × Int → Bool) (es : Array MapEntry) (seen : Array Nat) (h : (leftOf es seen).size = 0) : anySeen p es.toList seen = anyP p (pairs es) := by
  have ha := all_seen es seen h
  unfold pairs
  generalize es.toList = l at ha
  induction l with
  | nil => rfl
  | cons x l ih =>
    simp only [anySeen, List.map_cons, anyP, ha x List.mem_cons_self, Bool.true_and]
    rw [ih (fun y hy => ha y (List.mem_cons_of_mem _ hy))]

def ltP (L : List (ByteArray × Int)) (p : ByteArray × Int) : Bool := decide (p.2 < look L p.1)
def gtP (L : List (ByteArray × Int)) (p : ByteArray × Int) : Bool := decide (look L p.1 < p.2)
def newP (L : List (ByteArray × Int)) (p : ByteArray × Int) : Bool := !hasK L p.1 && decide (0 < p.2)
def cmpV (L M : List (ByteArray × Int)) : Int :=
  if (anyP (ltP M) L || anyP (newP L) M) && anyP (gtP M) L then 3 else if anyP (ltP M) L || anyP (newP L) M then 1 else if anyP (gtP M) L then 2 else 0

/-- The world with one block more at its end: the map still lies where it lay. -/
theorem MapIs.alloc {w : World} {m : Option Nat} {es : Array MapEntry} {clock : Nat} (h : MapIs w m es clock) (o : Obj) : MapIs (w.alloc o) m es clock := by
  refine ⟨h.size, h.stamped, h.shape, ?_⟩
  rcases h.place with h1 | ⟨bm, rfl, hb⟩
  · exact .inl h1
  · refine .inr ⟨bm, rfl, ?_⟩
    have hlt : bm < w.heap.size := by
      rcases Nat.lt_or_ge bm w.heap.size with h | h
      · exact h
      · simp [Array.getElem?_eq_none h] at hb
    rw [heap_alloc_old w _ hlt, hb]
theorem MapIs.alike {w w1 : World} {m : Option Nat} {es : Array MapEntry} {clock : Nat} (h : MapIs w m es clock) (ha : w1.Alike w) : MapIs w1 m es clock := by
  refine ⟨h.size, h.stamped, h.shape, ?_⟩
  rw [ha.1]
  exact h.place

/-- The state of a range over 'es': the iterator is the heap's last block. -/
def iterW (w : World) (m : Option Nat) (clock : Nat) (seen : Array Nat) : World := w.alloc (.mapIter m clock seen clock)

/-- 'range' over a map that may be nil. -/
theorem range_any {w : World} {m : Option Nat} {es : Array MapEntry} {clock : Nat} (h : MapIs w m es clock) :
    ∃ c, (m ≠ none → c = clock) ∧ (Instr.range 28 (.map m)).run Try.prog w = .ok (.pointer (some ⟨w.heap.size, 0, none⟩)) (iterW w m c #[]) := by
  rcases h.place with ⟨rfl, rfl⟩ | ⟨bm, rfl, hb⟩
  · exact ⟨0, fun h => absurd rfl h, run_range_nilMap w 28 9 31 Try.underlying28⟩
  · exact ⟨clock, fun _ => rfl, run_range_map w 28 9 31 bm es clock Try.underlying28 hb⟩

/-- 'next' over a map that may be nil: nothing is left, or one entry that is left comes out. -/
theorem next_any {w : World} {m : Option Nat} {es : Array MapEntry} {clock c : Nat} {seen : Array Nat} (h : MapIs w m es clock) (hc : m ≠ none → c = clock) (ty : TypeId) :
    ((leftOf es seen).size = 0 ∧ (Instr.next (.pointer (some ⟨w.heap.size, 0, none⟩)) false ty).run Try.prog (iterW w m c seen) = .ok (.tuple #[.bool false]) (iterW w m c seen)) ∨
    ∃ e ∈ (leftOf es seen).toList, ∃ w1 : World, w1.Alike w ∧ (Instr.next (.pointer (some ⟨w.heap.size, 0, none⟩)) false ty).run Try.prog (iterW w m c seen) = .ok (.tuple #[.bool true, e.key, e.val]) (iterW w1 m c (seen.push e.born)) ∧
      (Instr.entry (.pointer (some ⟨w.heap.size, 0, none⟩))).run Try.prog (iterW w1 m c (seen.push e.born)) = .ok (.tuple #[e.key, e.val]) (iterW w1 m c (seen.push e.born)) := by
  rcases h.place with ⟨rfl, rfl⟩ | ⟨bm, rfl, hb⟩
  · exact .inl ⟨by simp [leftOf], run_next_nilMap w ty c c seen⟩
  · obtain rfl := hc (by simp)
    have hst := (MapKept.stamped_iff es c).1 h.stamped
    rcases run_next_map (P := Try.prog) w ty bm c c seen es c hb hst.1 (Nat.le_refl _) with h1 | ⟨e, he, w1, hal, hrun⟩
    · exact .inl h1
    · refine .inr ⟨e, he, w1, hal, hrun, ?_⟩
      have hb1 : w1.heap[bm]? = some (.map es c) := by rw [hal.1]; exact hb
      have := run_entry_map (P := Try.prog) w1 bm c seen es c e hb1 (mem_left he).1 hst.2.1
      have hsz : w1.heap.size = w.heap.size := by rw [hal.1]
      rw [hsz] at this
      exact this
theorem iterSeen_iterW (w : World) (m : Option Nat) (c : Nat) (seen : Array Nat) : (iterW w m c seen).iterSeen w.heap.size = seen := World.iterSeen_alloc w m c seen c
theorem MapIs.iterW {w : World} {m : Option Nat} {es : Array MapEntry} {clock : Nat} (h : MapIs w m es clock) (m' : Option Nat) (c' : Nat) (s' : Array Nat) : MapIs (Qxb6627440a.iterW w m' c' s') m es clock := h.alloc _

/-- Of what was there when the call began nothing has turned. -/
structure Keeps (w w' : World) : Prop where
  os : w'.os = w.os
  output : w'.output = w.output
  size : w.heap.size ≤ w'.heap.size
  block : ∀ k, k < w.heap.size → w'.heap[k]? = w.heap[k]?
theorem Keeps.refl (w : World) : Keeps w w := ⟨rfl, rfl, Nat.le_refl _, fun _ _ => rfl⟩
theorem Keeps.iterW {w w' : World} (h : Keeps w w') (m : Option Nat) (c : Nat) (s : Array Nat) : Keeps w (Qxb6627440a.iterW w' m c s) :=
  ⟨h.os, h.output, by have := h.size; simp [Qxb6627440a.iterW]; omega, fun k hk => by unfold Qxb6627440a.iterW; rw [Below.heap_alloc _ _ _ (by have := h.size; omega)]; exact h.block k hk⟩
theorem Keeps.alike {w w' w1 : World} (h : Keeps w w') (ha : w1.Alike w') : Keeps w w1 :=
  ⟨ha.2.1.trans h.os, ha.2.2.trans h.output, by rw [ha.1]; exact h.size, by rw [ha.1]; exact h.block⟩
theorem Keeps.below {w w' : World} (h : Keeps w w') : ∃ W1, Below w.heap.size w W1 ∧ w'.Alike W1 := ⟨{ w' with tape := w.tape }, ⟨h.os, rfl, h.output, h.size, h.block⟩, rfl, rfl, rfl⟩

structure CmpOut (L M : List (ByteArray × Int)) (w : World) (e : Ending) (w' : World) : Prop where
  out : e = .returned (.int .i64 (cmpV L M)) ∧ Keeps w w'

theorem cmpV_of {L M : List (ByteArray × Int)} {b1 b2 b3 : Bool} (h1 : anyP (ltP M) L = b1) (h2 : anyP (gtP M) L = b2) (h3 : (b1 || anyP (newP L) M) = b3) : cmpV L M = if b3 && b2 then 3 else if b3 then 1 else if b2 then 2 else 0 := by
  unfold cmpV
  rw [h1, h2, h3]
set_option maxHeartbeats 1000000 in
theorem cmp_any (m1 m2 : Option Nat) (e1 e2 : Array MapEntry) (k1 k2 : Nat) (w : World) (hm1 : MapIs w m1 e1 k1) (hm2 : MapIs w m2 e2 k2) :
    Calls Try.prog 7 #[.map m1, .map m2] w (CmpOut (pairs e1) (pairs e2) w) := by
  obtain ⟨c1, hc1, hrg⟩ := range_any hm1
  go_enter Try.func7, Try.ntmps7
  go_wp2
  go_loopw [5, 6] (fun b a wr => ∃ (w1 : World) (seen : Array Nat), w1.Alike w ∧ wr = iterW w1 m1 c1 seen ∧ b = .bool (anySeen (ltP (pairs e2)) e1.toList seen) ∧ a = .bool (anySeen (gtP (pairs e2)) e1.toList seen)) (fun _ _ wr => (leftOf e1 (wr.iterSeen w.heap.size)).size)
  case atStart => exact ⟨w, #[], ⟨rfl, rfl, rfl⟩, rfl, by rw [anySeen_none], by rw [anySeen_none]⟩
  case round =>
    obtain ⟨w1, seen, hal, rfl, rfl, rfl⟩ := hrel
    have hsz : w1.heap.size = w.heap.size := by rw [hal.1]
    have hst := (MapKept.stamped_iff e1 k1).1 hm1.stamped
    rcases next_any (seen := seen) (hm1.alike hal) hc1 0 with ⟨h0, hrun⟩ | ⟨e, he, w2, hal2, hrun, hent⟩
    · rw [hsz] at hrun
      have hnx : ∀ ty, (Instr.next (.pointer (some ⟨w.heap.size, 0, none⟩)) false ty).run Try.prog (iterW w1 m1 c1 seen) = _ := fun _ => hrun
      have HW : Hid (Keeps w (iterW w1 m1 c1 seen)) := ((Keeps.refl w).alike hal).iterW _ _ _
      obtain ⟨c2, hc2, hrg2⟩ := range_any ((hm2.alike hal).iterW m1 c1 seen)
      rw [anySeen_all _ e1 seen h0, anySeen_all _ e1 seen h0]
      have hn1 := (hm1.alike hal).iterW m1 c1 seen
      have hn2 := (hm2.alike hal).iterW m1 c1 seen
      generalize iterW w1 m1 c1 seen = W at *
      clear hrun hrg hst h0 hal hsz hm1 hm2
      obtain ⟨b1, B1⟩ : ∃ b, Hid (anyP (ltP (pairs e2)) (pairs e1) = b) := ⟨_, rfl⟩
      obtain ⟨b2, B2⟩ : ∃ b, Hid (anyP (gtP (pairs e2)) (pairs e1) = b) := ⟨_, rfl⟩
      rw [B1.out, B2.out]
      go_wp2
      go_loopw [5] (fun b wr => ∃ (w2 : World) (seen : Array Nat), w2.Alike W ∧ wr = iterW w2 m2 c2 seen ∧ b = .bool (b1 || anySeen (newP (pairs e1)) e2.toList seen)) (fun _ wr => (leftOf e2 (wr.iterSeen W.heap.size)).size)
      case atStart => exact ⟨W, #[], ⟨rfl, rfl, rfl⟩, rfl, by rw [anySeen_none, Bool.or_false]⟩
      case round =>
        clear hnx hrg2
        obtain ⟨w2, seen2, hal, rfl, rfl⟩ := hrel
        have hsz : w2.heap.size = W.heap.size := by rw [hal.1]
        have hst := (MapKept.stamped_iff e2 k2).1 hn2.stamped
        rcases next_any (seen := seen2) (hn2.alike hal) hc2 0 with ⟨h0, hrun⟩ | ⟨e, he, w3, hal2, hrun, hent⟩
        · rw [hsz] at hrun
          have hnx : ∀ ty, (Instr.next (.pointer (some ⟨W.heap.size, 0, none⟩)) false ty).run Try.prog (iterW w2 m2 c2 seen2) = _ := fun _ => hrun
          rw [anySeen_all _ e2 seen2 h0]
          have HK : Hid (Keeps w (iterW w2 m2 c2 seen2)) := (HW.out.alike hal).iterW _ _ _
          obtain ⟨b3, B3⟩ : ∃ b, Hid ((b1 || anyP (newP (pairs e1)) (pairs e2)) = b) := ⟨_, rfl⟩
          rw [B3.out]
          clear hrun h0 hst hn1 hn2
          go_wp2
          all_goals
            go_ret
            refine ⟨?_, HK.out⟩
            rw [cmpV_of B1.out B2.out B3.out]
            simp_all
        · rw [hsz] at hrun hent
          have hsz2 : w3.heap.size = W.heap.size := by rw [hal2.1, hal.1]
          obtain ⟨s, v, hk, hs, hv, hv0⟩ := hn2.shape e (mem_left he).1
          have hlk := (((hn1.alike hal).alike hal2).iterW m2 c2 (seen2.push e.born)).both (t := 28) Try.underlying28 hs |>.2
          have hp1 : Hid (anySeen (newP (pairs e1)) e2.toList (seen2.push e.born) = (anySeen (newP (pairs e1)) e2.toList seen2 || (!hasK (pairs e1) s && decide (0 < v)))) := by
            have := anySeen_push (newP (pairs e1)) seen2 e e2.toList hst.2.1 (mem_left he).1
            rw [hk, hv] at this; exact this
          rw [hk, hv] at hrun hent
          have hnx : ∀ ty, (Instr.next (.pointer (some ⟨W.heap.size, 0, none⟩)) false ty).run Try.prog (iterW w2 m2 c2 seen2) = _ := fun _ => hrun
          clear hrun hst hn1 hn2
          generalize anySeen (newP (pairs e1)) e2.toList seen2 = b4 at *
          obtain ⟨b5, B5⟩ : ∃ b, Hid ((b1 || b4) = b) := ⟨_, rfl⟩
          rw [B5.out]
          go_wp2
          all_goals
            go_roundw
            case rel =>
              refine ⟨w3, seen2.push e.born, ⟨hal2.1.trans hal.1, hal2.2.1.trans hal.2.1, hal2.2.2.trans hal.2.2⟩, rfl, ?_⟩
              rw [hp1.out, ← Bool.or_assoc, B5.out]
              first
                | (have hh : hasK (pairs e1) s = true := by assumption
                   rw [hh]; simp)
                | (have hh : ¬ hasK (pairs e1) s = true := by assumption
                   have hp : 0 < v := by assumption
                   rw [Bool.not_eq_true] at hh; rw [hh, decide_eq_true hp]; simp)
                | (have hh : ¬ hasK (pairs e1) s = true := by assumption
                   have hp : v ≤ 0 := by assumption
                   rw [decide_eq_false (by omega)]; simp)
            case measure =>
              rw [← hsz2, iterSeen_iterW, hsz2, ← hsz, iterSeen_iterW]
              exact left_shrinks e2 seen2 e he
    · rw [hsz] at hrun hent
      have hsz2 : w2.heap.size = w.heap.size := by rw [hal2.1, hal.1]
      obtain ⟨s, v, hk, hs, hv, hv0⟩ := hm1.shape e (mem_left he).1
      have hlk := (((hm2.alike hal).alike hal2).iterW m1 c1 (seen.push e.born)).both (t := 28) Try.underlying28 hs |>.1
      have hp1 : Hid (anySeen (ltP (pairs e2)) e1.toList (seen.push e.born) = (anySeen (ltP (pairs e2)) e1.toList seen || decide (v < look (pairs e2) s))) := by
        have := anySeen_push (ltP (pairs e2)) seen e e1.toList hst.2.1 (mem_left he).1
        rw [hk, hv] at this; exact this
      have hp2 : Hid (anySeen (gtP (pairs e2)) e1.toList (seen.push e.born) = (anySeen (gtP (pairs e2)) e1.toList seen || decide (look (pairs e2) s < v))) := by
        have := anySeen_push (gtP (pairs e2)) seen e e1.toList hst.2.1 (mem_left he).1
        rw [hk, hv] at this; exact this
      rw [hk, hv] at hrun hent
      have hnx : ∀ ty, (Instr.next (.pointer (some ⟨w.heap.size, 0, none⟩)) false ty).run Try.prog (iterW w1 m1 c1 seen) = _ := fun _ => hrun
      clear hrun hrg hst
      generalize anySeen (ltP (pairs e2)) e1.toList seen = b1 at *
      generalize anySeen (gtP (pairs e2)) e1.toList seen = b2 at *
      go_wp2
      all_goals
        go_roundw
        case rel =>
          refine ⟨w2, seen.push e.born, ⟨hal2.1.trans hal.1, hal2.2.1.trans hal.2.1, hal2.2.2.trans hal.2.2⟩, rfl, ?_, ?_⟩
          · rw [hp1.out]; simp_all
          · rw [hp2.out]; simp_all
        case measure =>
          rw [← hsz2, iterSeen_iterW, hsz2, ← hsz, iterSeen_iterW]
          exact left_shrinks e1 seen e he
end Go.Proofs.Qxb6627440a
