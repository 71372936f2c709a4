/-
  A map[string]uint64 that came in, as the walk sees it: its entries as a plain list of pairs; what a look-up gives.
-/
import Derived.Test.Qxb6627440aRows
import Derived.WalkKit
import Derived.ProofKit
import Derived.WalkLawsBesides
import Derived.SliceStrings
namespace Go.Proofs.Qxb6627440a
open Go.ChangeShapes Go.WideShapes Go.ChangeAt Go.RowKit Go.WideMaps Go.WideElems

def keyS : Value → ByteArray
  | .string s => s
  | _ => ByteArray.empty
def pairs (es : Array MapEntry) : List (ByteArray × Int) := es.toList.map fun e => (keyS e.key, valOf e.val)
def look : List (ByteArray × Int) → ByteArray → Int
  | [], _ => 0
  | p :: r, s => if p.1 = s then p.2 else look r s
def hasK : List (ByteArray × Int) → ByteArray → Bool
  | [], _ => false
  | p :: r, s => if p.1 = s then true else hasK r s

def nth (ss : List ByteArray) (i : Nat) : ByteArray := ss[i]?.getD ByteArray.empty
/-- The slice of strings: its length, its strings, and the cells that hold them. -/
def StrRow (w : World) (a : Option Addr) (len : Nat) (ss : List ByteArray) : Prop :=
  ss.length = len ∧ len ≤ maxLen ∧ (∀ s ∈ ss, s.size ≤ maxLen) ∧ (0 < len → ∃ b off, a = some ⟨b, off, none⟩ ∧ ∀ i, i < len → w.cell? ⟨b, off + i, none⟩ = some (.string (nth ss i)))

structure MapIs (w : World) (m : Option Nat) (es : Array MapEntry) (clock : Nat) : Prop where
  size : es.size ≤ maxLen
  stamped : MapKept.Stamped es clock
  shape : ∀ x ∈ es.toList, ∃ s v, x.key = .string s ∧ s.size ≤ maxLen ∧ x.val = .int .u64 v ∧ 0 ≤ v
  place : (m = none ∧ es = #[]) ∨ ∃ bm, m = some bm ∧ w.heap[bm]? = some (.map es clock)

theorem look_none {l : List MapEntry} {s : ByteArray} (hsh : ∀ x ∈ l, ∃ s v, x.key = .string s ∧ s.size ≤ maxLen ∧ x.val = .int .u64 v ∧ 0 ≤ v) (h : ∀ e ∈ l, e.key ≠ .string s) :
    look (l.map fun e => (keyS e.key, valOf e.val)) s = 0 ∧ hasK (l.map fun e => (keyS e.key, valOf e.val)) s = false := by
  induction l with
  | nil => exact ⟨rfl, rfl⟩
  | cons x l ih =>
    have ih' := ih (fun y hy => hsh y (List.mem_cons_of_mem _ hy)) (fun y hy => h y (List.mem_cons_of_mem _ hy))
    obtain ⟨t, v, hk, _, _, _⟩ := hsh x List.mem_cons_self
    have hne : ¬ t = s := fun e => h x List.mem_cons_self (by rw [hk, e])
    simp only [List.map_cons, look, hasK, hk, keyS, if_neg hne]
    exact ih'

theorem look_some {l : List MapEntry} {s : ByteArray} {e : MapEntry} (hsh : ∀ x ∈ l, ∃ s v, x.key = .string s ∧ s.size ≤ maxLen ∧ x.val = .int .u64 v ∧ 0 ≤ v) (hp : l.Pairwise (fun x y => x.key ≠ y.key)) (he : e ∈ l) (hs : e.key = .string s) :
    look (l.map fun e => (keyS e.key, valOf e.val)) s = valOf e.val ∧ hasK (l.map fun e => (keyS e.key, valOf e.val)) s = true := by
  induction l with
  | nil => cases he
  | cons x l ih =>
    rw [List.pairwise_cons] at hp
    obtain ⟨t, v, hk, _, _, _⟩ := hsh x List.mem_cons_self
    rcases List.mem_cons.1 he with rfl | h
    · simp only [List.map_cons, look, hasK, hs, keyS, if_true]
      exact ⟨trivial, trivial⟩
    · have hne : ¬ t = s := fun e1 => hp.1 e h (by rw [hk, hs, e1])
      simp only [List.map_cons, look, hasK, hk, keyS, if_neg hne]
      exact ih (fun y hy => hsh y (List.mem_cons_of_mem _ hy)) hp.2 h

theorem klaw : KeyLaw Try.prog 9 := string_law Try.underlying9

theorem MapIs.both {w : World} {m : Option Nat} {es : Array MapEntry} {clock : Nat} (h : MapIs w m es clock) {t : TypeId} (ht : Try.prog.underlying t = some (.map 9 31)) {s : ByteArray} (hs : s.size ≤ maxLen) :
    (Instr.lookup t (.map m) (.string s) false).run Try.prog w = .ok (.int .u64 (look (pairs es) s)) w ∧ (Instr.lookup t (.map m) (.string s) true).run Try.prog w = .ok (.tuple #[.int .u64 (look (pairs es) s), .bool (hasK (pairs es) s)]) w := by
  have hkey := keyOf_string_mk Try.underlying9 hs
  have hkeys : ∀ e ∈ es.toList, ∃ l, keyOf Try.prog 9 e.key = some l := fun e he => by
    obtain ⟨t, v, hk, ht, _, _⟩ := h.shape e he
    exact ⟨_, by rw [hk]; exact keyOf_string_mk Try.underlying9 ht⟩
  have hpw := ((MapKept.stamped_iff es clock).1 h.stamped).2.2
  rcases h.place with ⟨rfl, rfl⟩ | ⟨bm, rfl, hb⟩
  · rcases klaw.find w hkey [] (by simp) with ⟨f1, _⟩ | ⟨j, e0, _, f2, _⟩
    · constructor <;> simp [Instr.lookup, run_underlying ht, klaw.check w _ hkey, f1, Result.andThen, pairs, look, hasK]
    · simp at f2
  · rcases klaw.find w hkey es.toList hkeys with ⟨h1, h2⟩ | ⟨j, e0, h1, h2, h3⟩
    · have hl := look_none h.shape h2
      constructor <;> simp [Instr.lookup, run_underlying ht, MapKept.run_getObj_map hb, klaw.check w _ hkey, h1, Result.andThen, pairs, hl.1, hl.2]
    · have hm : e0 ∈ es.toList := List.mem_of_getElem? h2
      have hl := look_some h.shape hpw hm h3
      obtain ⟨t', v, _, _, hv, _⟩ := h.shape e0 hm
      rw [hv] at hl
      have hl1 : look (es.toList.map fun e => (keyS e.key, valOf e.val)) s = v := hl.1
      constructor <;> simp [Instr.lookup, run_underlying ht, MapKept.run_getObj_map hb, klaw.check w _ hkey, h1, Result.andThen, pairs, hl1, hl.2, hv]
end Go.Proofs.Qxb6627440a
