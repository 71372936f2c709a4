/-
  The walks of zzBytes_.., zzSizeOKB1.
-/
import Derived.Test.Qxb6627514aRows
import Derived.WalkKit
import Derived.ProofKit
import Derived.WalkLawsBesides
import Derived.WalkSpells
import Derived.SliceStrings
import Derived.Deep.QuietTactic
import Derived.BigQuiet
namespace Go.Proofs.Qxb6627514a
open Go.ChangeShapes Go.WideShapes Go.ChangeAt Go.RowKit
set_option linter.unusedVariables false

def nth (ss : List ByteArray) (i : Nat) : ByteArray := ss[i]?.getD ByteArray.empty
/-- The slice of strings: its length, its strings, and the cells that hold them. -/
def StrRow (w : World) (a : Option Addr) (len : Nat) (ss : List ByteArray) : Prop :=
  ss.length = len ∧ len ≤ maxLen ∧ (∀ s ∈ ss, s.size ≤ maxLen) ∧ (0 < len → ∃ b off, a = some ⟨b, off, none⟩ ∧ ∀ i, i < len → w.cell? ⟨b, off + i, none⟩ = some (.string (nth ss i)))
theorem nth_mem (ss : List ByteArray) (k : Nat) (h : k < ss.length) : nth ss k ∈ ss := by
  simp [nth, List.getElem?_eq_getElem h]

/-- Some truth value comes back, nothing else has turned. -/
structure SomeOut (w : World) (e : Ending) (w' : World) : Prop where
  out : ∃ r : Bool, e = .returned (.bool r) ∧ w = w'
structure SizeOut (len : Nat) (ss : List ByteArray) (p q : ByteArray) (w : World) (e : Ending) (w' : World) : Prop where
  out : ∃ r : Bool, e = .returned (.bool r) ∧ (r = true → len ≤ 65536 ∧ p.size ≤ 1048576 ∧ q.size ≤ 1048576 ∧ ∀ i, i < len → (nth ss i).size ≤ 1048576) ∧ w = w'

set_option maxHeartbeats 1000000 in
theorem bytesA_any (a : Option Addr) (len cap : Nat) (ss : List ByteArray) (i : Int) (t : ByteArray) (w : World) (hr : StrRow w a len ss) (ht : t.size ≤ maxLen) :
    Calls Try.prog 5 #[.slice a len cap, .int .i64 i, .string t] w (SomeOut w) := by
  obtain ⟨hl, hmx, hsz, hcell⟩ := hr
  unfold maxLen at hmx ht
  by_cases h1 : 1048576 < len
  · have h1' : (1048576 : Int) < len := by omega
    go_enter Try.func5, Try.ntmps5
    go_wp2
    go_ret
    exact ⟨⟨false, rfl, rfl⟩⟩
  have h1' : ¬ (1048576 : Int) < len := by omega
  go_enter Try.func5, Try.ntmps5
  go_wp2
  go_loop [7, 8] (fun z i => ∃ (k : Nat) (x : Int), k ≤ len ∧ i = .int .i64 k ∧ z = .int .i64 x) (fun _ i => len - (intOf i).toNat)
  case atStart => exact ⟨0, _, Nat.zero_le _, rfl, rfl⟩
  case round =>
    obtain ⟨k, x, hk, rfl, rfl⟩ := hrel
    by_cases hlt : k < len
    · obtain ⟨b, off, rfl, hc⟩ := hcell (by omega)
      have hck := hc k hlt
      have hlk : (nth ss k).size ≤ 9223372036854775807 := hsz _ (nth_mem ss k (by omega))
      clear hc hcell hsz
      go_wp2
      all_goals first
        | (go_ret; exact ⟨⟨false, rfl, rfl⟩⟩)
        | (go_round
           case rel => exact ⟨k + 1, _, by omega, by go_num, rfl⟩
           case measure => simp [intOf]; omega)
    · clear hcell hsz
      go_wp2
      all_goals first
        | (go_ret; exact ⟨⟨false, rfl, rfl⟩⟩)
        | (go_ret; exact ⟨⟨true, rfl, rfl⟩⟩)
set_option maxHeartbeats 1000000 in
theorem bytesB_any (a : Option Addr) (len cap : Nat) (ss : List ByteArray) (i : Int) (t : ByteArray) (w : World) (hr : StrRow w a len ss) (ht : t.size ≤ maxLen) :
    Calls Try.prog 10 #[.slice a len cap, .string t, .int .i64 i] w (SomeOut w) := by
  obtain ⟨hl, hmx, hsz, hcell⟩ := hr
  unfold maxLen at hmx ht
  by_cases h1 : 1048576 < len
  · have h1' : (1048576 : Int) < len := by omega
    go_enter Try.func10, Try.ntmps10
    go_wp2
    go_ret
    exact ⟨⟨false, rfl, rfl⟩⟩
  have h1' : ¬ (1048576 : Int) < len := by omega
  go_enter Try.func10, Try.ntmps10
  go_wp2
  go_loop [7, 8] (fun z i => ∃ (k : Nat) (x : Int), k ≤ len ∧ i = .int .i64 k ∧ z = .int .i64 x) (fun _ i => len - (intOf i).toNat)
  case atStart => exact ⟨0, _, Nat.zero_le _, rfl, rfl⟩
  case round =>
    obtain ⟨k, x, hk, rfl, rfl⟩ := hrel
    by_cases hlt : k < len
    · obtain ⟨b, off, rfl, hc⟩ := hcell (by omega)
      have hck := hc k hlt
      have hlk : (nth ss k).size ≤ 9223372036854775807 := hsz _ (nth_mem ss k (by omega))
      clear hc hcell hsz
      go_wp2
      all_goals first
        | (go_ret; exact ⟨⟨false, rfl, rfl⟩⟩)
        | (go_round
           case rel => exact ⟨k + 1, _, by omega, by go_num, rfl⟩
           case measure => simp [intOf]; omega)
    · clear hcell hsz
      go_wp2
      all_goals first
        | (go_ret; exact ⟨⟨false, rfl, rfl⟩⟩)
        | (go_ret; exact ⟨⟨true, rfl, rfl⟩⟩)

set_option maxHeartbeats 1000000 in
theorem size_any (a : Option Addr) (len cap : Nat) (ss : List ByteArray) (p q : ByteArray) (w : World) (hr : StrRow w a len ss) (hp : p.size ≤ maxLen) (hq : q.size ≤ maxLen) :
    Calls Try.prog 6 #[.slice a len cap, .string p, .string q] w (SizeOut len ss p q w) := by
  obtain ⟨hl, hmx, hsz, hcell⟩ := hr
  unfold maxLen at hmx hp hq
  by_cases h1 : 1048576 < p.size
  · have h1' : (1048576 : Int) < p.size := by omega
    go_enter Try.func6, Try.ntmps6
    go_wp2
    go_ret
    exact ⟨⟨false, rfl, fun h => by simp at h, rfl⟩⟩
  have h1' : ¬ (1048576 : Int) < p.size := by omega
  by_cases h2 : 1048576 < q.size
  · have h2' : (1048576 : Int) < q.size := by omega
    go_enter Try.func6, Try.ntmps6
    go_wp2
    go_ret
    exact ⟨⟨false, rfl, fun h => by simp at h, rfl⟩⟩
  have h2' : ¬ (1048576 : Int) < q.size := by omega
  by_cases h3 : 65536 < len
  · have h3' : (65536 : Int) < len := by omega
    go_enter Try.func6, Try.ntmps6
    go_wp2
    go_ret
    exact ⟨⟨false, rfl, fun h => by simp at h, rfl⟩⟩
  have h3' : ¬ (65536 : Int) < len := by omega
  by_cases h4 : 1048576 < p.size + q.size
  · have h4' : (1048576 : Int) < p.size + q.size := by omega
    go_enter Try.func6, Try.ntmps6
    go_wp2
    go_ret
    exact ⟨⟨false, rfl, fun h => by simp at h, rfl⟩⟩
  have h4' : ¬ (1048576 : Int) < p.size + q.size := by omega
  go_enter Try.func6, Try.ntmps6
  go_wp2
  go_loop [7, 8] (fun z i => ∃ (k : Nat) (x : Int), k ≤ len ∧ i = .int .i64 k ∧ z = .int .i64 x ∧ ∀ j, j < k → (nth ss j).size ≤ 1048576) (fun _ i => len - (intOf i).toNat)
  case atStart => exact ⟨0, _, Nat.zero_le _, rfl, rfl, fun j hj => by omega⟩
  case round =>
    obtain ⟨k, x, hk, rfl, rfl, hso⟩ := hrel
    have HS : Hid (∀ j, j < k → (nth ss j).size ≤ 1048576) := hso
    clear hso
    by_cases hlt : k < len
    · obtain ⟨b, off, rfl, hc⟩ := hcell (by omega)
      have hck := hc k hlt
      have hlk : (nth ss k).size ≤ 9223372036854775807 := hsz _ (nth_mem ss k (by omega))
      clear hc hcell hsz
      by_cases h5 : 1048576 < (nth ss k).size
      · have h5' : (1048576 : Int) < (nth ss k).size := by omega
        go_wp2
        go_ret
        exact ⟨⟨false, rfl, fun h => by simp at h, rfl⟩⟩
      · have h5' : ¬ (1048576 : Int) < (nth ss k).size := by omega
        go_wp2
        all_goals first
          | (go_ret; exact ⟨⟨false, rfl, fun h => by simp at h, rfl⟩⟩)
          | (go_round
             case rel =>
               refine ⟨k + 1, _, by omega, by go_num, rfl, fun j hj => ?_⟩
               rcases Nat.lt_or_ge j k with h | h
               · exact HS.out j h
               · have e : j = k := by omega
                 subst e
                 omega
             case measure => simp [intOf]; omega)
    · have hke : k = len := by omega
      subst hke
      clear hcell hsz
      go_wp2
      go_ret
      exact ⟨⟨true, rfl, fun _ => ⟨by omega, by omega, by omega, HS.out⟩, rfl⟩⟩
end Go.Proofs.Qxb6627514a
