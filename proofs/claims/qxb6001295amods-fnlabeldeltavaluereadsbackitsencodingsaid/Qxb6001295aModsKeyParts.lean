import Derived.Test.Qxb6001295aModsStrParts
/-! What is known of a []uint64 that came in, or that a clone made. No Go in sight. -/
namespace Go.Proofs.Qxb6001295aMods
open Go.RowKit

/-- As the frame opens an argument of type []uint64. -/
def IsKeys (w : World) (a : Option Addr) (len cap : Nat) (zs : List Int) : Prop :=
  (a = none ∧ len = 0 ∧ cap = 0 ∧ zs = []) ∨
  ∃ x, a = some x ∧ len ≤ cap ∧ cap ≤ maxLen ∧ zs.length = cap ∧ (∀ i, i < zs.length → w.cell? (x.add i) = some (.int .u64 (zs.getD i 0))) ∧ ∀ n ∈ zs, (Lit.int .u64 n).wf = true

def keyV (k : Nat) : Value := .int .u64 (k : Int)

structure KeyArg (w : World) (a : Option Addr) (len : Nat) (ks : List Nat) : Prop where
  row : RowArg w a len (ks.map keyV)
  fit : ∀ k ∈ ks, k < 18446744073709551616

theorem KeyArg.kept {w w' : World} {a : Option Addr} {len : Nat} {ks : List Nat} (h : KeyArg w a len ks) (hb : Below w.heap.size w w') : KeyArg w' a len ks := ⟨h.row.kept hb, h.fit⟩
theorem KeyArg.len {w : World} {a : Option Addr} {len : Nat} {ks : List Nat} (h : KeyArg w a len ks) : ks.length = len := by have := h.row.1; simpa using this

theorem KeyArg.of_own {w : World} {B g n cap : Nat} {ks : List Nat} (h : w.ownsRow B 51 1 (.slice (some ⟨g, 0, none⟩) n cap) n (ks.map keyV)) (hf : ∀ k ∈ ks, k < 18446744073709551616) (hm : n ≤ maxLen) : KeyArg w (some ⟨g, 0, none⟩) n ks := by
  have hl : (ks.map keyV).length = n := by simpa using h.1
  refine ⟨⟨hl, hm, .inr ⟨g, 0, rfl, (h.lt g rfl).2, fun j u hj => ?_⟩⟩, hf⟩
  rw [Nat.zero_add, h.cellAt j (by have := (List.getElem?_eq_some_iff.1 hj).1; omega)]
  exact hj

theorem wf_u64 {n : Int} (h : (Lit.int .u64 n).wf = true) : 0 ≤ n ∧ n < 18446744073709551616 := by
  have := bounds_u64 h
  omega

theorem IsKeys.arg {w : World} {a : Option Addr} {len cap : Nat} {zs : List Int} (h : IsKeys w a len cap zs) : KeyArg w a len ((zs.take len).map Int.toNat) ∧ (a = none → len = 0 ∧ cap = 0) := by
  rcases h with ⟨rfl, rfl, rfl, rfl⟩ | ⟨x, rfl, hl, hm, hz, hc, hf⟩
  · exact ⟨⟨⟨rfl, by unfold maxLen; omega, .inl rfl⟩, by simp⟩, fun _ => ⟨rfl, rfl⟩⟩
  · refine ⟨⟨⟨by simp; omega, by omega, ?_⟩, fun k hk => ?_⟩, fun e => by cases e⟩
    · by_cases h0 : len = 0
      · exact .inl h0
      · right
        obtain ⟨b, off, spot⟩ := x
        have hspot : spot = none := by simpa [Addr.add] using World.cell?_spot (hc 0 (by omega))
        subst hspot
        refine ⟨b, off, rfl, World.block_lt_of_cell? w _ (hc 0 (by omega)), fun j u hj => ?_⟩
        rw [List.getElem?_map, List.getElem?_map, List.getElem?_take] at hj
        split at hj
        · rename_i hjl
          have hjs : j < zs.length := by omega
          have := hc j hjs
          rw [Go.WideShapes.add_plain] at this
          rw [this]
          have hn := wf_u64 (hf _ (List.getElem_mem hjs))
          simp only [List.getElem?_eq_getElem hjs, Option.map_some, Option.some.injEq] at hj
          rw [← hj]
          simp only [keyV, List.getD_eq_getElem?_getD, List.getElem?_eq_getElem hjs, Option.getD_some]
          rw [Int.toNat_of_nonneg hn.1]
        · simp at hj
    · simp only [List.mem_map] at hk
      obtain ⟨z, hz', rfl⟩ := hk
      have hn := wf_u64 (hf z (List.mem_of_mem_take hz'))
      omega

end Go.Proofs.Qxb6001295aMods
