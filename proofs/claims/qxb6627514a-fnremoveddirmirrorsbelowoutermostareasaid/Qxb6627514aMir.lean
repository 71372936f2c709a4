/-
  The walk of FnRemovedDirMirrorsBelowOutermostArea.
-/
import Derived.Test.Qxb6627514aMirP
namespace Go.Proofs.Qxb6627514a
open Go.ChangeShapes Go.WideShapes Go.ChangeAt Go.RowKit Go.Lib Go.Lib.Pa
set_option linter.unusedVariables false

theorem mir_plain {root below : List UInt8} {g : Nat → List UInt8} {n i : Nat} (hi : i < n) (hg : g i = root) (hne : root ≠ []) (hb : ∀ k, k < n → Beside root (g k)) (hu : underB root below = true) (hc : cleanB below = true) : outTo below g n = root := by
  refine outTo_root hi hg hne (by unfold withinB; rw [hu, hc]; rfl) (fun k hk hw => ?_)
  unfold withinB at hw
  rw [Bool.and_eq_true] at hw
  have hp := under_prefix hw.1
  have hr := under_prefix hu
  have hbk := hb k hk
  rcases Nat.lt_trichotomy (g k).length root.length with h | h | h
  · exfalso
    by_cases hd : g k = []
    · have h1 := hbk.1 hd
      have h2 := (under_iff _ _).1 hw.1
      rw [hd] at h2
      rcases h2 with h2 | h2
      · rw [h2] at hr
        exact hne (List.prefix_nil.1 hr)
      · obtain ⟨r, e⟩ := h2
        obtain ⟨r2, e2⟩ := hr
        cases root with
        | nil => exact hne rfl
        | cons c rt =>
          rw [← e2] at e
          simp at e
          unfold rootedB at h1
          rw [← e.1] at h1
          simp at h1
    · have h1 := hbk.2 hd h
      have h2 := (under_iff _ _).1 hw.1
      rcases h2 with h2 | h2
      · rw [h2] at hr
        have := hr.length_le
        omega
      · have h3 := List.prefix_of_prefix_length_le h2 hr (by rw [List.length_append]; simp; omega)
        rw [(under_iff _ _).2 (.inr h3)] at h1
        exact absurd h1 (by decide)
  · left
    have h3 := List.prefix_of_prefix_length_le hp hr (by omega)
    exact h3.eq_of_length h
  · exact .inr h

/-- What comes back at root, and below it. -/
theorem mir_root {len : Nat} {ss : List ByteArray} {i : Nat} {t : ByteArray} (h : MirFacts len ss i t) : remOf (outTo (nth ss i).data.toList (fun k => (nth ss k).data.toList) len) (nth ss i).data.toList = (nth ss i).data.toList ++ sufR := by
  have hne : (nth ss i).data.toList ≠ [] := fun e => by have := h.clean; rw [e] at this; exact absurd this (by decide)
  rw [mir_plain h.lt rfl hne h.beside (under_self _) h.clean]
  unfold remOf
  rw [List.drop_length, List.append_nil]
theorem mir_below {len : Nat} {ss : List ByteArray} {i : Nat} {t : ByteArray} (h : MirFacts len ss i t) (ht : t.data.toList ≠ []) :
    remOf (outTo ((nth ss i).data.toList ++ 47 :: t.data.toList) (fun k => (nth ss k).data.toList) len) ((nth ss i).data.toList ++ 47 :: t.data.toList) = (nth ss i).data.toList ++ sufR ++ 47 :: t.data.toList := by
  have hne : (nth ss i).data.toList ≠ [] := fun e => by have := h.clean; rw [e] at this; exact absurd this (by decide)
  have hseg : segOK false false (els t.data.toList) = true := by
    rcases h.tail with h1 | ⟨h1, h2, h3, h4, h5⟩
    · exact absurd h1 ht
    · exact tail_plain h1 h2 h3 h4 h5
  have hcl := clean_below h.clean h.n2 h.n1 hseg
  have hu : underB (nth ss i).data.toList ((nth ss i).data.toList ++ 47 :: t.data.toList) = true := (under_iff _ _).2 (.inr ⟨t.data.toList, by simp⟩)
  rw [mir_plain h.lt rfl hne h.beside hu hcl]
  unfold remOf
  rw [List.drop_left]

theorem data_below (x t : ByteArray) : (x ++ { data := #[47] } ++ t).data.toList = x.data.toList ++ 47 :: t.data.toList := by simp
theorem data_suf (x : ByteArray) : (x ++ { data := #[45, 114, 101, 109, 111, 118, 101, 100] }).toList = x.data.toList ++ sufR := by
  rw [toList_data]
  simp [sufR]

structure TrueOut (w : World) (e : Ending) (w' : World) : Prop where
  out : e = .returned (.bool true)
  below : Below w.heap.size w w'

set_option maxRecDepth 100000 in
set_option maxHeartbeats 2000000 in
theorem mir_walk (a : Option Addr) (len cap : Nat) (ss : List ByteArray) (i : Int) (t : ByteArray) (w : World) (hr : StrRow w a len ss) (ht : t.size ≤ maxLen) :
    Calls Try.prog 3 #[.slice a len cap, .int .i64 i, .string t] w (TrueOut w) := by
  go_enter Try.func3, Try.ntmps3
  go_wp2_with fail
  refine (bytesA_any a len cap ss i t w hr ht).mono ?_
  rintro e w' ⟨r, rfl, rfl⟩
  cases r with
  | false =>
    go_wp2
    go_ret
    exact ⟨rfl, Below.refl _ _⟩
  | true =>
  go_wp2_with fail
  refine (size_any a len cap ss t { data := #[] } w hr ht (by decide)).mono ?_
  rintro e w' ⟨r, rfl, hq, rfl⟩
  cases r with
  | false =>
    go_wp2
    go_ret
    exact ⟨rfl, Below.refl _ _⟩
  | true =>
  obtain ⟨hlen, htz, _, hsz⟩ := hq rfl
  clear hq
  go_wp2_with fail
  refine (mirP_any a len cap ss i t w hr hlen hsz htz).mono ?_
  rintro e w' ⟨r, rfl, hf, rfl⟩
  cases r with
  | false =>
    go_wp2
    go_ret
    exact ⟨rfl, Below.refl _ _⟩
  | true =>
  obtain ⟨hi0, hF⟩ := hf rfl
  obtain ⟨m, rfl⟩ := Int.eq_ofNat_of_zero_le hi0
  rw [Int.toNat_natCast] at hF
  have hm := hF.lt
  have hmz := hsz m hm
  have hm' : (m : Int) < len := by omega
  obtain ⟨b, off, rfl, hc⟩ := hr.2.2.2 (by omega)
  have hcm := hc m hm
  have E1 : Hid (remOf (outTo (nth ss m).data.toList (fun k => (nth ss k).data.toList) len) (nth ss m).data.toList = (nth ss m).data.toList ++ sufR) := mir_root hF
  clear hc hf
  cases te : t.toList.isEmpty with
  | true =>
    go_wp2_with fail
    refine (areas_any _ len cap ss w hr hlen).mono ?_
    rintro e w3 ⟨rfl, hb3, hr3⟩
    go_wp2_with fail
    refine (removed_any _ len (nth ss m) (nth ss) w3 hr3 (by omega) hsz (by omega)).mono ?_
    rintro e w4 ⟨r1, rfl, hr1, hb4⟩
    have hr4 := hr3.of_block (hb4.block _ hr3.lt)
    have HB4 := hb3.trans (hb4.mono hb3.size)
    rw [E1.out] at hr1
    have R1 : Hid (r1.data.toList = (nth ss m).data.toList ++ sufR) := hr1
    clear hr1
    go_wp2_with fail
    refine (removed_any _ len (nth ss m) (nth ss) w4 hr4 (by omega) hsz (by omega)).mono ?_
    rintro e w5 ⟨r2, rfl, hr2, hb5⟩
    have HB5 : Hid (Below w.heap.size w w5) := HB4.trans (hb5.mono HB4.size)
    rw [E1.out] at hr2
    have e1 : (r1.toList == (nth ss m ++ { data := #[45, 114, 101, 109, 111, 118, 101, 100] }).toList) = true := by
      rw [data_suf, toList_data, R1.out, beq_iff_eq]
    have e2 : (r2.toList == r1.toList) = true := by
      rw [toList_data, toList_data, R1.out, hr2, beq_iff_eq]
    clear hr2 hb3 hb4 hb5 hr3 hr4 HB4 hF hr E1
    go_wp2
    go_ret
    exact ⟨rfl, HB5.out⟩
  | false =>
    have E2 : Hid (remOf (outTo ((nth ss m).data.toList ++ 47 :: t.data.toList) (fun k => (nth ss k).data.toList) len) ((nth ss m).data.toList ++ 47 :: t.data.toList) = (nth ss m).data.toList ++ sufR ++ 47 :: t.data.toList) := mir_below hF (by rw [← toList_data]; exact List.isEmpty_eq_false_iff.1 te)
    go_wp2_with fail
    refine (areas_any _ len cap ss w hr hlen).mono ?_
    rintro e w3 ⟨rfl, hb3, hr3⟩
    go_wp2_with fail
    refine (removed_any _ len (nth ss m) (nth ss) w3 hr3 (by omega) hsz (by omega)).mono ?_
    rintro e w4 ⟨r1, rfl, hr1, hb4⟩
    have hr4 := hr3.of_block (hb4.block _ hr3.lt)
    have HB4 := hb3.trans (hb4.mono hb3.size)
    rw [E1.out] at hr1
    have R1 : Hid (r1.data.toList = (nth ss m).data.toList ++ sufR) := hr1
    have hz1 : r1.size ≤ 2097152 := by
      rw [Lib.size_eq, hr1, List.length_append, ← Lib.size_eq]
      have : sufR.length = 8 := rfl
      omega
    clear hr1
    go_wp2_with fail
    refine (removed_any _ len _ (nth ss) w4 hr4 (by omega) hsz ?hd).mono ?_
    case hd =>
      rw [Lib.size_eq, data_below, List.length_append, List.length_cons, ← Lib.size_eq, ← Lib.size_eq]
      omega
    rintro e w5 ⟨r2, rfl, hr2, hb5⟩
    have HB5 : Hid (Below w.heap.size w w5) := HB4.trans (hb5.mono HB4.size)
    rw [data_below, E2.out] at hr2
    have e1 : (r1.toList == (nth ss m ++ { data := #[45, 114, 101, 109, 111, 118, 101, 100] }).toList) = true := by
      rw [data_suf, toList_data, R1.out, beq_iff_eq]
    have e2 : (r2.toList == (r1 ++ { data := #[47] } ++ t).toList) = true := by
      rw [toList_data, toList_data, data_below, R1.out, hr2, beq_iff_eq]
    clear hr2 hb3 hb4 hb5 hr3 hr4 HB4 hF hr E1 E2
    go_wp2
    go_ret
    exact ⟨rfl, HB5.out⟩
end Go.Proofs.Qxb6627514a
