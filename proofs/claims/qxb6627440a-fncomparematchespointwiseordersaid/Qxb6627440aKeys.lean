/-
  The walks of zzSortedDistinct, zzKeysCover, zzLE.
-/
import Derived.Test.Qxb6627440aMap
import Derived.Deep.QuietTactic
import Derived.BigQuiet
import Derived.WalkSpells
namespace Go.Proofs.Qxb6627440a
open Go.ChangeShapes Go.WideShapes Go.ChangeAt Go.RowKit Go.WideMaps Go.WideElems

def cnt (L : List (ByteArray × Int)) : List ByteArray → Nat
  | [] => 0
  | s :: r => (if hasK L s = true then 1 else 0) + cnt L r
theorem cnt_snoc (L : List (ByteArray × Int)) (l : List ByteArray) (s : ByteArray) : cnt L (l ++ [s]) = cnt L l + if hasK L s = true then 1 else 0 := by
  induction l with
  | nil => simp [cnt]
  | cons x l ih => simp only [List.cons_append, cnt, ih]; omega
theorem cnt_le (L : List (ByteArray × Int)) (l : List ByteArray) : cnt L l ≤ l.length := by
  induction l with
  | nil => simp [cnt]
  | cons x l ih => simp only [cnt, List.length_cons]; split <;> omega
theorem take_snoc (ss : List ByteArray) (k : Nat) (h : k < ss.length) : ss.take (k + 1) = ss.take k ++ [nth ss k] := by
  rw [List.take_succ_eq_append_getElem h]
  simp [nth, List.getElem?_eq_getElem h]
theorem getD_mem (ss : List ByteArray) (k : Nat) (h : k < ss.length) : nth ss k ∈ ss := by
  simp [nth, List.getElem?_eq_getElem h]

theorem run_len_map {w : World} {m : Option Nat} {es : Array MapEntry} {clock : Nat} (h : MapIs w m es clock) {t : TypeId} (ht : Try.prog.underlying t = some (.map 9 31)) (ty : TypeId) : (Builtin.len_ #[t] ty #[.map m]).run Try.prog w = .ok (.int .i64 es.size) w := by
  rcases h.place with ⟨rfl, rfl⟩ | ⟨bm, rfl, hb⟩
  · simp [Builtin.len_, run_underlying ht, goInt]
  · simp [Builtin.len_, run_underlying ht, MapKept.run_getObj_map hb, goInt]

set_option maxHeartbeats 400000 in
theorem cover_any (a : Option Addr) (len cap : Nat) (ss : List ByteArray) (m : Option Nat) (es : Array MapEntry) (clock : Nat) (w : World) (hr : StrRow w a len ss) (hm : MapIs w m es clock) :
    Calls Try.prog 5 #[.slice a len cap, .map m] w fun e w' => e = .returned (.bool ((cnt (pairs es) ss : Int) == (es.size : Int))) ∧ w' = w := by
  obtain ⟨hl, hmx, hsz, hcell⟩ := hr
  unfold maxLen at hmx
  go_enter Try.func5, Try.ntmps5
  go_wp2
  go_loop [5, 6] (fun n i => ∃ k : Nat, k ≤ len ∧ i = .int .i64 k ∧ n = .int .i64 (cnt (pairs es) (ss.take k))) (fun _ i => len - (intOf i).toNat)
  case atStart => exact ⟨0, Nat.zero_le _, rfl, rfl⟩
  case round =>
    obtain ⟨k, hk, rfl, rfl⟩ := hrel
    by_cases hlt : k < len
    · obtain ⟨b, off, rfl, hc⟩ := hcell (by omega)
      have hck := hc k hlt
      have hlk := (hm.both (t := 22) Try.underlying22 (hsz _ (getD_mem ss k (by omega)))).2
      have hcl := cnt_le (pairs es) (ss.take k)
      rw [List.length_take] at hcl
      have hts : Hid (ss.take (k + 1) = ss.take k ++ [nth ss k]) := take_snoc ss k (by omega)
      clear hc hcell
      go_wp2
      · have hh : hasK (pairs es) (nth ss k) = true := by assumption
        go_round
        case rel => exact ⟨k + 1, by omega, by go_num, by rw [hts.out, cnt_snoc, if_pos hh]; go_num⟩
        case measure => simp [intOf]; omega
      · have hh : hasK (pairs es) (nth ss k) = false := by assumption
        go_round
        case rel => exact ⟨k + 1, by omega, by go_num, by rw [hts.out, cnt_snoc, if_neg (by rw [hh]; simp)]; rfl⟩
        case measure => simp [intOf]; omega
    · have hke : k = len := by omega
      have hlm := run_len_map hm (t := 22) Try.underlying22
      have htk : ss.take k = ss := List.take_of_length_le (by omega)
      rw [htk]
      clear hcell htk
      go_wp2
      go_ret
      exact ⟨rfl, rfl⟩

structure SortedOut (len : Nat) (ss : List ByteArray) (w : World) (e : Ending) (w' : World) : Prop where
  out : ∃ r : Bool, e = .returned (.bool r) ∧ (r = true → ∀ k, k + 1 < len → Op.bytesLess (nth ss k).toList (nth ss (k + 1)).toList = true) ∧ ∃ n, w' = w.drewN n
structure LeOut (len : Nat) (ss : List ByteArray) (l1 l2 : List (ByteArray × Int)) (w : World) (e : Ending) (w' : World) : Prop where
  out : ∃ r : Bool, e = .returned (.bool r) ∧ (r = true ↔ ∀ k, k < len → look l1 (nth ss k) ≤ look l2 (nth ss k)) ∧ ∃ n, w' = w.drewN n

set_option maxHeartbeats 400000 in
theorem sorted_any (a : Option Addr) (len cap : Nat) (ss : List ByteArray) (w : World) (hr : StrRow w a len ss) :
    Calls Try.prog 4 #[.slice a len cap] w (SortedOut len ss w) := by
  obtain ⟨hl, hmx, hsz, hcell⟩ := hr
  unfold maxLen at hmx
  go_enter Try.func4, Try.ntmps4
  go_wp2
  go_loopw [3] (fun i wr => ∃ k : Nat, (k < len ∨ len ≤ 1 ∧ k = 0 ∨ k + 1 = len) ∧ i = .int .i64 (k + 1) ∧ (∀ j, j < k → j + 1 < len → Op.bytesLess (nth ss j).toList (nth ss (j + 1)).toList = true) ∧ ∃ n, wr = w.drewN n) (fun i _ => len - (intOf i).toNat)
  case atStart => exact ⟨0, by omega, rfl, fun j hj => by omega, 0, rfl⟩
  case round =>
    obtain ⟨k, hk, rfl, hso, n, rfl⟩ := hrel
    by_cases hlt : k + 1 < len
    · obtain ⟨b, off, rfl, hc⟩ := hcell (by omega)
      have hck := hc k (by omega)
      have hck1 := hc (k + 1) hlt
      have HS : Hid (∀ j, j < k → j + 1 < len → Op.bytesLess (nth ss j).toList (nth ss (j + 1)).toList = true) := hso
      have h1 : (k : Int) + 1 < len := by omega
      have h2 : (k : Int) < len := by omega
      clear hc hcell hso
      go_wp2
      go_quiet (fail)
      go_wp2
      · go_ret
        exact ⟨⟨false, rfl, fun h => by simp at h, _, World.drewN_drewN _ _ _⟩⟩
      · have hb : (!Op.bytesLess (nth ss k).toList (nth ss (k + 1)).toList) = false := by assumption
        go_roundw
        case rel =>
          refine ⟨k + 1, by omega, by go_num, fun j hj hjl => ?_, _, rfl⟩
          rcases Nat.lt_or_ge j k with h | h
          · exact HS.out j h hjl
          · have e : j = k := by omega
            subst e
            simpa using hb
        case measure => simp [intOf]; omega
    · have h1 : ¬ (k : Int) + 1 < len := by omega
      have HS : Hid (∀ j, j < k → j + 1 < len → Op.bytesLess (nth ss j).toList (nth ss (j + 1)).toList = true) := hso
      clear hso hcell
      go_wp2
      go_ret
      exact ⟨⟨true, rfl, fun _ j hj => HS.out j (by omega) hj, n, rfl⟩⟩

theorem MapIs.drewN {w : World} {m : Option Nat} {es : Array MapEntry} {clock : Nat} (h : MapIs w m es clock) (n : Nat) : MapIs (w.drewN n) m es clock := ⟨h.size, h.stamped, h.shape, h.place⟩
theorem look_nonneg {w : World} {m : Option Nat} {es : Array MapEntry} {clock : Nat} (h : MapIs w m es clock) (s : ByteArray) : 0 ≤ look (pairs es) s := by
  have hs := h.shape
  unfold pairs
  generalize es.toList = l at hs
  induction l with
  | nil => exact Int.le_refl _
  | cons x l ih =>
    obtain ⟨t, v, hk, _, hv, hp⟩ := hs x List.mem_cons_self
    simp only [List.map_cons, look]
    split
    · rw [hv]; exact hp
    · exact ih (fun y hy => hs y (List.mem_cons_of_mem _ hy))

set_option maxHeartbeats 400000 in
theorem le_any (a : Option Addr) (len cap : Nat) (ss : List ByteArray) (m1 m2 : Option Nat) (e1 e2 : Array MapEntry) (c1 c2 : Nat) (w : World) (hr : StrRow w a len ss) (hm1 : MapIs w m1 e1 c1) (hm2 : MapIs w m2 e2 c2) :
    Calls Try.prog 6 #[.slice a len cap, .map m1, .map m2] w (LeOut len ss (pairs e1) (pairs e2) w) := by
  obtain ⟨hl, hmx, hsz, hcell⟩ := hr
  unfold maxLen at hmx
  go_enter Try.func6, Try.ntmps6
  go_wp2
  go_loopw [7] (fun i wr => ∃ k : Nat, k ≤ len ∧ i = .int .i64 k ∧ (∀ j, j < k → look (pairs e1) (nth ss j) ≤ look (pairs e2) (nth ss j)) ∧ ∃ n, wr = w.drewN n) (fun i _ => len - (intOf i).toNat)
  case atStart => exact ⟨0, by omega, rfl, fun j hj => by omega, 0, rfl⟩
  case round =>
    obtain ⟨k, hk, rfl, hso, n, rfl⟩ := hrel
    have HS : Hid (∀ j, j < k → look (pairs e1) (nth ss j) ≤ look (pairs e2) (nth ss j)) := hso
    by_cases hlt : k < len
    · obtain ⟨b, off, rfl, hc⟩ := hcell (by omega)
      have hck := hc k hlt
      have hs := hsz _ (getD_mem ss k (by omega))
      have q1 := fun nq => ((hm1.drewN nq).both (t := 22) Try.underlying22 hs).1
      have q2 := fun nq => ((hm2.drewN nq).both (t := 22) Try.underlying22 hs).1
      have h1 : (k : Int) < len := by omega
      clear hc hcell hso hs
      go_wp2
      go_quiet (fail)
      go_wp2
      · have hb : look (pairs e2) (nth ss k) < look (pairs e1) (nth ss k) := by assumption
        go_ret
        exact ⟨⟨false, rfl, ⟨fun h => by simp at h, fun h => by have := h k hlt; omega⟩, _, World.drewN_drewN _ _ _⟩⟩
      · have hb : look (pairs e1) (nth ss k) ≤ look (pairs e2) (nth ss k) := by assumption
        go_roundw
        case rel =>
          refine ⟨k + 1, by omega, by go_num, fun j hj => ?_, _, rfl⟩
          rcases Nat.lt_or_ge j k with h | h
          · exact HS.out j h
          · have e : j = k := by omega
            subst e
            exact hb
        case measure => simp [intOf]; omega
    · have h1 : ¬ (k : Int) < len := by omega
      clear hso hcell
      go_wp2
      go_ret
      exact ⟨⟨true, rfl, ⟨fun _ j hj => HS.out j (by omega), fun _ => rfl⟩, n, rfl⟩⟩
end Go.Proofs.Qxb6627440a
