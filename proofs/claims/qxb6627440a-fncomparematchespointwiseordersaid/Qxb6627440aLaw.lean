/-
  The walk of the law itself.
-/
import Derived.Test.Qxb6627440aPlain
namespace Go.Proofs.Qxb6627440a
open Go.ChangeShapes Go.WideShapes Go.ChangeAt Go.RowKit Go.WideMaps Go.WideElems

structure TrueOut (w : World) (e : Ending) (w' : World) : Prop where
  out : e = .returned (.bool true) ∧ Keeps w w'

theorem StrRow.drewN {w : World} {a : Option Addr} {len : Nat} {ss : List ByteArray} (h : StrRow w a len ss) (n : Nat) : StrRow (w.drewN n) a len ss := h
theorem Keeps.drewN {w w' : World} (h : Keeps w w') (n : Nat) : Keeps w (w'.drewN n) := ⟨h.os, h.output, h.size, h.block⟩
theorem Keeps.of_drewN {w w' : World} {n : Nat} (h : Keeps (w.drewN n) w') : Keeps w w' := ⟨h.os, h.output, h.size, h.block⟩

theorem cover_some (a : Option Addr) (len cap : Nat) (ss : List ByteArray) (m : Option Nat) (es : Array MapEntry) (clock : Nat) (w : World) (hr : StrRow w a len ss) (hm : MapIs w m es clock) :
    Calls Try.prog 5 #[.slice a len cap, .map m] w fun e w' => ∃ r : Bool, e = .returned (.bool r) ∧ (r = true → Hid (cnt (pairs es) ss = (pairs es).length)) ∧ w = w' := by
  refine (cover_any a len cap ss m es clock w hr hm).mono ?_
  rintro e w' ⟨rfl, rfl⟩
  refine ⟨_, rfl, fun h => ?_, rfl⟩
  show _ = _
  rw [length_pairs]
  simp only [beq_iff_eq] at h
  omega

set_option maxHeartbeats 1000000 in
theorem law_walk (m1 m2 : Option Nat) (a : Option Addr) (len cap : Nat) (e1 e2 : Array MapEntry) (k1 k2 : Nat) (ss : List ByteArray) (w : World) (hm1 : MapIs w m1 e1 k1) (hm2 : MapIs w m2 e2 k2) (hr : StrRow w a len ss) :
    Calls Try.prog 3 #[.map m1, .map m2, .slice a len cap] w (TrueOut w) := by
  have hl1 := run_len_map hm1 (t := 22) Try.underlying22
  have hl2 := run_len_map hm2 (t := 22) Try.underlying22
  have z1 := hm1.size
  have z2 := hm2.size
  have z3 := hr.2.1
  unfold maxLen at z1 z2 z3
  by_cases d1 : 65536 < len
  · have hd : (65536 : Int) < len := by omega
    go_enter Try.func3, Try.ntmps3
    go_wp2
    go_ret
    exact ⟨rfl, Keeps.refl _⟩
  by_cases d2 : 65536 < e1.size
  · have hd : ¬ (65536 : Int) < len := by omega
    have hd2 : (65536 : Int) < e1.size := by omega
    go_enter Try.func3, Try.ntmps3
    go_wp2
    go_ret
    exact ⟨rfl, Keeps.refl _⟩
  by_cases d3 : 65536 < e2.size
  · have hd : ¬ (65536 : Int) < len := by omega
    have hd2 : ¬ (65536 : Int) < e1.size := by omega
    have hd3 : (65536 : Int) < e2.size := by omega
    go_enter Try.func3, Try.ntmps3
    go_wp2
    go_ret
    exact ⟨rfl, Keeps.refl _⟩
  have hd : ¬ (65536 : Int) < len := by omega
  have hd2 : ¬ (65536 : Int) < e1.size := by omega
  have hd3 : ¬ (65536 : Int) < e2.size := by omega
  go_enter Try.func3, Try.ntmps3
  go_wp2
  clear hl1 hl2 hd hd2 hd3 d2 d3 z1 z2
  go_loop [7, 8] (fun t i => ∃ (k : Nat) (x : Int), k ≤ len ∧ i = .int .i64 k ∧ t = .int .i64 x) (fun _ i => len - (intOf i).toNat)
  case atStart => exact ⟨0, 0, Nat.zero_le _, rfl, rfl⟩
  case round =>
    obtain ⟨k, x, hk, rfl, rfl⟩ := hrel
    by_cases hlt : k < len
    · obtain ⟨b, off, rfl, hc⟩ := hr.2.2.2 (by omega)
      have hck := hc k hlt
      clear hc
      go_wp2
      · go_ret
        exact ⟨rfl, Keeps.refl _⟩
      · go_round
        case rel => exact ⟨k + 1, _, by omega, by go_num, rfl⟩
        case measure => simp [intOf]; omega
    · go_wp2_with fail
      refine (sorted_any a len cap ss w hr).mono ?_
      rintro e w' ⟨r, rfl, hsrt, n, rfl⟩
      have HS : Hid (r = true → ∀ k, k + 1 < len → Op.bytesLess (nth ss k).toList (nth ss (k + 1)).toList = true) := hsrt
      clear hsrt
      cases r
      · go_wp2
        go_ret
        exact ⟨rfl, (Keeps.refl _).drewN _⟩
      go_wp2_with fail
      refine (cover_some a len cap ss m1 e1 k1 _ (hr.drewN n) (hm1.drewN n)).mono ?_
      rintro e w' ⟨r, rfl, hr1, rfl⟩
      cases r
      · go_wp2
        go_ret
        exact ⟨rfl, (Keeps.refl _).drewN _⟩
      have HC1 := hr1 rfl
      clear hr1
      go_wp2_with fail
      refine (cover_some a len cap ss m2 e2 k2 _ (hr.drewN n) (hm2.drewN n)).mono ?_
      rintro e w' ⟨r, rfl, hr1, rfl⟩
      cases r
      · go_wp2
        go_ret
        exact ⟨rfl, (Keeps.refl _).drewN _⟩
      have HC2 := hr1 rfl
      clear hr1
      go_wp2_with fail
      refine (le_any a len cap ss m1 m2 e1 e2 k1 k2 _ (hr.drewN n) (hm1.drewN n) (hm2.drewN n)).mono ?_
      rintro e w' ⟨r1, rfl, hr1, n1, rfl⟩
      have HR1 : Hid (r1 = true ↔ ∀ k, k < len → look (pairs e1) (nth ss k) ≤ look (pairs e2) (nth ss k)) := hr1
      clear hr1
      go_wp2_with fail
      refine (le_any a len cap ss m2 m1 e2 e1 k2 k1 _ (hr.drewN (n + n1)) (hm2.drewN (n + n1)) (hm1.drewN (n + n1))).mono ?_
      rintro e w' ⟨r2, rfl, hr2, n2, rfl⟩
      have HR2 : Hid (r2 = true ↔ ∀ k, k < len → look (pairs e2) (nth ss k) ≤ look (pairs e1) (nth ss k)) := hr2
      clear hr2
      have hln := hr.1
      subst hln
      have HL := compare_law (dist_of (HS.out (by first | rfl | trivial))) (good_of hm1) (good_of hm2) HC1.out HC2.out HR1.out HR2.out
      cases r1 <;> cases r2
      all_goals
        go_wp2_with fail
        refine (cmp_any m1 m2 e1 e2 k1 k2 _ (hm1.drewN (n + n1 + n2)) (hm2.drewN (n + n1 + n2))).mono ?_
        rintro e w' ⟨rfl, hkp⟩
        rw [HL]
        have HK : Hid (Keeps w w') := hkp.of_drewN
        clear hkp HL
        go_wp2
        go_ret
        exact ⟨rfl, HK.out⟩
end Go.Proofs.Qxb6627440a
