/-
  'Rows.FnCompareMatchesPointwiseOrderSaid', PROVED: for every two maps (nil ones too) and every slice of strings, on every order of ranging.
-/
import Derived.Test.Qxb6627440aLaw
import Derived.ChangeOld
import Derived.OpenShut
import Derived.Carry
namespace Go.Proofs.Qxb6627440a.fnCompareMatchesPointwiseOrder
open Go.ChangeShapes Go.WideShapes Go.ChangeAt Go.RowKit Go.WideMaps Go.WideElems
open Go.Proofs.Qxb6627440a
set_option linter.unusedVariables false

theorem own : ownKnob Try.prog.godebug = none := by kernel_rfl
theorem laidOut : laidOutB Try.prog = true := by kernel_rfl

/-- A map that came in, opened. -/
theorem open_it {H : Type} {enc : TypeId × Value → H} {W : World} {m : Option Nat} {d : DataW H} {p : List MemPlace} (h : DataW.Trod enc Try.prog W 0 (fun _ => true) true 22 (.map m) d p) : ∃ es clock, MapIs W m es clock := by
  obtain ⟨fuel, hf⟩ := h
  rcases open_map Try.underlying22 hf with ⟨hcs, hx⟩ | ⟨bm, es, clock, n, rfl, hcs, hb, _, F, hx⟩
  · simp [Value.cells] at hcs
    subst hcs
    exact ⟨#[], 0, ⟨by simp, MapKept.stamped_empty 0, by simp, .inl ⟨rfl, rfl⟩⟩⟩
  · simp [Value.cells] at hcs
    subst hcs
    refine ⟨es, clock, ⟨F.size, F.stamped, fun x hx => ?_, .inr ⟨bm, rfl, hb⟩⟩⟩
    obtain ⟨y, hy⟩ := F.reads x hx
    obtain ⟨z, hz, hd⟩ := rd_val hy
    obtain ⟨a, ha, rfl, hw⟩ := elemAt_int Try.underlying31 hz
    obtain ⟨s, hs, _, hsz⟩ := string_of_keyOf Try.underlying9 (rd_key hy)
    exact ⟨s, a, hs, hsz, ha, (bounds_u64 hw).1⟩

theorem open_keys {H : Type} {enc : TypeId × Value → H} {W : World} {a : Option Addr} {len cap : Nat} {d : DataW H} {p : List MemPlace} (h : DataW.Trod enc Try.prog W 0 (fun _ => true) true 23 (.slice a len cap) d p) : ∃ ss, StrRow W a len ss := by
  obtain ⟨fuel, hf⟩ := h
  rcases open_strings Try.underlying23 Try.underlying9 (by kernel_rfl) hf with ⟨hcs, hx⟩ | ⟨x, len', cap', ss, hcs, _, hl, hm, hz, hx, hcell, hws⟩
  · simp [Value.cells] at hcs
    obtain ⟨rfl, rfl, rfl⟩ := hcs
    exact ⟨[], rfl, by simp, by simp, fun h => by omega⟩
  · simp [Value.cells] at hcs
    obtain ⟨rfl, rfl, rfl⟩ := hcs
    simp only [if_true] at hz
    refine ⟨ss.take len, by simp; omega, by omega, fun s hs => hws s (List.mem_of_mem_take hs), fun h => ?_⟩
    obtain ⟨b, off, spot⟩ := x
    have hspot : spot = none := by simpa [Addr.add] using World.cell?_spot (hcell 0 (by omega))
    subst hspot
    refine ⟨b, off, rfl, fun i hi => ?_⟩
    have h1 := hcell i (by omega)
    rw [add_plain] at h1
    rw [h1]
    simp [nth, hi]

set_option maxRecDepth 100000 in
theorem lifted (os : Os) (started : os.Started) (H : Type) (enc : TypeId × Value → H) :
    ReturnsInHanded {} Try.checked os 3 .any (Rows.fnCompareMatchesPointwiseOrderSpec.pre6 enc Try.prog Try.f3 Rows.fnCompareMatchesPointwiseOrderRow.domain false) (Rows.fnCompareMatchesPointwiseOrderSpec.post enc Try.prog Try.f3 false true false false) := by
  refine returnsInHanded_of_change (C := Try.checked) own started (by kernel_rfl) Try.func3
    (ChangeSpec.witness6 (enc := enc) (C := Try.checked) false ⟨#[], #[.map none, .map none, .slice none 0 0], []⟩ 8 (by kernel_rfl) (by kernel_rfl) (by kernel_rfl) (by kernel_rfl)) ?_
  intro W base args ds gs before hval0 hW hcnd _
  have hval : ∀ (j : Nat) t v, Try.f3.params[j]? = some t → args[j]? = some v → Value.okWide Try.prog W .any base t v := hval0
  have hW' := hW
  obtain ⟨p, q, hA0, hV, rfl, hfz, hnd⟩ := hW
  have hA : DataW.TrodAll enc Try.prog W 0 (fun _ => true) true Try.f3.params.toList args.toList ds p := hA0
  rw [Try.params3] at hA hval
  obtain ⟨v0, vs0, d0, ds0, p0, q0, hargs, rfl, rfl, h0, r0⟩ := trodAll_cons hA
  obtain ⟨v1, vs1, d1, ds1, p1, q1, rfl, rfl, rfl, h1, r1⟩ := trodAll_cons r0
  obtain ⟨v2, vs2, d2, ds2, p2, q2, rfl, rfl, rfl, h2, r2⟩ := trodAll_cons r1
  obtain ⟨rfl, rfl, rfl⟩ := trodAll_nil r2
  obtain rfl : args = #[v0, v1, v2] := by cases args; simp_all
  obtain ⟨rfl, rfl⟩ := trodVars_none hV
  obtain ⟨m0, rfl⟩ := okWide_map Try.underlying22 (hval 0 22 v0 rfl rfl)
  obtain ⟨m1, rfl⟩ := okWide_map Try.underlying22 (hval 1 22 v1 rfl rfl)
  obtain ⟨a2, len2, cap2, rfl⟩ := okWide_slice Try.underlying23 (hval 2 23 v2 rfl rfl)
  have lt0 : ∀ x ∈ p0, x.block < W.heap.size := by obtain ⟨m, hm⟩ := h0; exact DataW.trod_lt m _ _ _ hm
  have lt1 : ∀ x ∈ p1, x.block < W.heap.size := by obtain ⟨m, hm⟩ := h1; exact DataW.trod_lt m _ _ _ hm
  have lt2 : ∀ x ∈ p2, x.block < W.heap.size := by obtain ⟨m, hm⟩ := h2; exact DataW.trod_lt m _ _ _ hm
  obtain ⟨e0, k0, o0⟩ := open_it h0
  obtain ⟨e1, k1, o1⟩ := open_it h1
  obtain ⟨ss, o2⟩ := open_keys h2
  clear hA0 hval0
  refine (law_walk m0 m1 a2 len2 cap2 e0 e1 k0 k1 ss W o0 o1 o2).mono fun e W' ⟨he, hk⟩ => ?_
  subst he
  obtain ⟨W1, bel, hal⟩ := hk.below
  exact ⟨_, rfl, ChangeSpec.post_alike ⟨_, _, _, [], _, [], hW', trodAll_mk1 (shut_bool Try.underlying4 _), (trodAll_cons_mk (Below.trod laidOut (by kernel_rfl) (of_decide_eq_true (by kernel_rfl)) h0 bel lt0) (trodAll_cons_mk (Below.trod laidOut (by kernel_rfl) (of_decide_eq_true (by kernel_rfl)) h1 bel lt1) (trodAll_cons_mk (Below.trod laidOut (by kernel_rfl) (of_decide_eq_true (by kernel_rfl)) h2 bel lt2) trodAll_mk0))), rfl, bel.frame _, fun h => by cases h⟩ hal⟩

theorem over : Rows.fnCompareMatchesPointwiseOrderRow.holds Try.pinned (OpenSpec.ofChange Rows.fnCompareMatchesPointwiseOrderSpec) :=
  OpenClaim.holds_of_wide 3 Try.f3 rfl rfl rfl rfl rfl rfl rfl ⟨rfl, rfl, rfl, rfl, rfl⟩ rfl rfl rfl rfl rfl (by kernel_rfl) Try.func3 (by kernel_rfl)
    (of_decide_eq_true (by kernel_rfl)) (by unfold Func.isWrapper; first | (rw [if_pos (by decide +kernel)]; kernel_rfl) | (rw [if_neg (by decide +kernel)]; exact ⟨rfl, rfl⟩))
    (fun os started H enc _ => lifted os started H enc)

/-- THE STATEMENT -/
theorem proved : Rows.FnCompareMatchesPointwiseOrderSaid := over
#print axioms proved
end Go.Proofs.Qxb6627440a.fnCompareMatchesPointwiseOrder
