import Derived.WalkKit
import Derived.ProofKit
import Derived.OpenShut
import Derived.SliceStrings
/-! What is known of a []string or a []uint64 that came in, or that a clone made. No Go in sight. -/
namespace Go.Proofs.Qxb6001295aMods
open Go.RowKit

/-- Both nil, or neither. -/
def SameNil (a b : Option Addr) : Prop := a.isNone = b.isNone

/-- As the frame opens an argument of type []string. -/
def IsStrs (w : World) (a : Option Addr) (len cap : Nat) (ss : List ByteArray) : Prop :=
  (a = none ∧ len = 0 ∧ cap = 0 ∧ ss = []) ∨
  ∃ x, a = some x ∧ len ≤ cap ∧ cap ≤ maxLen ∧ ss.length = cap ∧ (∀ i, i < ss.length → w.cell? (x.add i) = some (.string (ss.getD i ByteArray.empty))) ∧ ∀ s ∈ ss, s.size ≤ maxLen

/-- The elements of a slice, as cells that can be read. -/
def RowArg (w : World) (a : Option Addr) (len : Nat) (vs : List Value) : Prop :=
  vs.length = len ∧ len ≤ maxLen ∧ (len = 0 ∨ ∃ b off, a = some ⟨b, off, none⟩ ∧ b < w.heap.size ∧ ∀ j u, vs[j]? = some u → w.cell? ⟨b, off + j, none⟩ = some u)

structure StrArg (w : World) (a : Option Addr) (len : Nat) (ss : List ByteArray) : Prop where
  row : RowArg w a len (ss.map .string)
  fit : ∀ s ∈ ss, s.size ≤ maxLen

theorem RowArg.kept {w w' : World} {a : Option Addr} {len : Nat} {vs : List Value} (h : RowArg w a len vs) (hb : Below w.heap.size w w') : RowArg w' a len vs := by
  obtain ⟨h1, h2, h3⟩ := h
  refine ⟨h1, h2, ?_⟩
  rcases h3 with h3 | ⟨b, off, ha, hlt, hc⟩
  · exact .inl h3
  · exact .inr ⟨b, off, ha, Nat.lt_of_lt_of_le hlt hb.size, fun j u hj => (hb.cell (p := ⟨b, off + j, none⟩) hlt).trans (hc j u hj)⟩

theorem StrArg.kept {w w' : World} {a : Option Addr} {len : Nat} {ss : List ByteArray} (h : StrArg w a len ss) (hb : Below w.heap.size w w') : StrArg w' a len ss := ⟨h.row.kept hb, h.fit⟩

theorem StrArg.len {w : World} {a : Option Addr} {len : Nat} {ss : List ByteArray} (h : StrArg w a len ss) : ss.length = len := by have := h.row.1; simpa using this

theorem IsStrs.arg {w : World} {a : Option Addr} {len cap : Nat} {ss : List ByteArray} (h : IsStrs w a len cap ss) : StrArg w a len (ss.take len) ∧ (a = none → len = 0 ∧ cap = 0) := by
  rcases h with ⟨rfl, rfl, rfl, rfl⟩ | ⟨x, rfl, hl, hm, hz, hc, hf⟩
  · exact ⟨⟨⟨rfl, by unfold maxLen; omega, .inl rfl⟩, by simp⟩, fun _ => ⟨rfl, rfl⟩⟩
  · refine ⟨⟨⟨by simp; omega, by omega, ?_⟩, fun s hs => hf s (List.mem_of_mem_take hs)⟩, fun e => by cases e⟩
    by_cases h0 : len = 0
    · exact .inl h0
    · right
      obtain ⟨b, off, spot⟩ := x
      have hspot : spot = none := by simpa [Addr.add] using World.cell?_spot (hc 0 (by omega))
      subst hspot
      refine ⟨b, off, rfl, World.block_lt_of_cell? w _ (hc 0 (by omega)), fun j u hj => ?_⟩
      rw [List.getElem?_map, List.getElem?_take] at hj
      split at hj
      · rename_i hjl
        have hjs : j < ss.length := by omega
        have := hc j hjs
        rw [Go.WideShapes.add_plain] at this
        rw [this]
        simp only [List.getElem?_eq_getElem hjs, Option.map_some, Option.some.injEq] at hj
        rw [← hj]
        simp [hjs]
      · simp at hj

/-- A slice that the call itself has made, filled up to k. -/
theorem StrArg.of_own {w : World} {B g n cap : Nat} {ss : List ByteArray} (h : w.ownsRow B 9 1 (.slice (some ⟨g, 0, none⟩) n cap) n (ss.map .string)) (hf : ∀ s ∈ ss, s.size ≤ maxLen) (hm : n ≤ maxLen) : StrArg w (some ⟨g, 0, none⟩) n ss := by
  have hl : (ss.map Value.string).length = n := by simpa using h.1
  refine ⟨⟨hl, hm, .inr ⟨g, 0, rfl, (h.lt g rfl).2, fun j u hj => ?_⟩⟩, hf⟩
  rw [Nat.zero_add, h.cellAt j (by have := (List.getElem?_eq_some_iff.1 hj).1; omega)]
  exact hj

/-- What a clone holds after k rounds: the first k strings, then zeros. -/
def cloneTo (z : Value) (vs : List Value) (k : Nat) : List Value := vs.take k ++ List.replicate (vs.length - k) z

theorem cloneTo_zero (z : Value) (vs : List Value) : cloneTo z vs 0 = List.replicate vs.length z := by simp [cloneTo]
theorem cloneTo_all (z : Value) (vs : List Value) : cloneTo z vs vs.length = vs := by simp [cloneTo]
theorem cloneTo_step (z : Value) (vs : List Value) (k : Nat) (h : k < vs.length) : (cloneTo z vs k).set k vs[k] = cloneTo z vs (k + 1) := by
  unfold cloneTo
  obtain ⟨m, hm⟩ : ∃ m, vs.length - k = m + 1 := ⟨vs.length - k - 1, by omega⟩
  rw [hm, List.set_append_right _ _ (by simp; omega), List.replicate_succ, show vs.length - (k + 1) = m by omega, List.take_succ_eq_append_getElem h, List.append_assoc]
  congr 1
  rw [show k - (vs.take k).length = 0 by simp; omega]
  rfl
theorem cloneTo_at (z : Value) (vs : List Value) (k : Nat) (h : k < vs.length) : (cloneTo z vs k)[k]? = some z := by
  unfold cloneTo
  rw [List.getElem?_append_right (by simp; omega), List.getElem?_replicate]
  rw [if_pos (by simp; omega)]

theorem made_one (z : Value) (n : Nat) : (madeCells #[z] n).toList = List.replicate n z := by
  simp only [madeCells, Array.toList_map, Array.toList_range]
  rw [List.eq_replicate_iff]
  refine ⟨by simp, fun b hb => ?_⟩
  simp at hb
  obtain ⟨a, _, rfl⟩ := hb
  simp [Nat.mod_one]

/-- The sum of the sizes of the first k strings. -/
def sumTo (ss : List ByteArray) (k : Nat) : Nat := ((ss.take k).map (·.size)).sum

theorem sumTo_zero (ss : List ByteArray) : sumTo ss 0 = 0 := by simp [sumTo]
theorem sumTo_succ (ss : List ByteArray) (k : Nat) (h : k < ss.length) : sumTo ss (k + 1) = sumTo ss k + ss[k].size := by
  unfold sumTo; rw [List.take_succ_eq_append_getElem h, List.map_append, List.sum_append]; rfl

end Go.Proofs.Qxb6001295aMods
