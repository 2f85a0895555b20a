import Derived.Test.Qxb6001295aModsPeerSmall
import Derived.RegionTactic
import Derived.ChangeAlike
import Derived.BigRegion
import Derived.Maps.OwnSet
import Derived.Maps.StringElems
namespace Go.Proofs.Qxb6001295aMods
open Go.RowKit Go.Maps
set_option linter.unusedVariables false

theorem mapLaw : Keyed Trym.prog 9 := string_keyed Trym.underlying9

/-- A map value: nil, or a block that reads as a map of strings. -/
def MapAt (w : World) (m : Option Nat) : Prop := m = none ∨ ∃ b n D, m = some b ∧ n ≤ 65536 ∧ w.ownsMap (H := Unit) Trym.prog 9 (plainElem Trym.prog 9) b n D

theorem MapAt.kept {w w' : World} {m : Option Nat} (h : MapAt w m) (hb : Below w.heap.size w w') : MapAt w' m := by
  rcases h with h | ⟨b, n, D, h1, h2, h3⟩
  · exact .inl h
  · refine .inr ⟨b, n, D, h1, h2, ?_⟩
    have hlt := h3.lt
    obtain ⟨es, clock, hh, rest⟩ := h3
    exact ⟨es, clock, (hb.block b hlt).trans hh, rest⟩

def LabelsOut (e : Ending) (x : Option Addr) (w : World) : Prop := ∃ m : Option Nat, e = .returned (.map m) ∧ m.isNone = x.isNone ∧ MapAt w m

set_option maxRecDepth 100000 in
set_option maxHeartbeats 800000 in
theorem labels_any (x0 : Option Addr) (l0 c0 : Nat) (x1 : Option Addr) (l1 c1 : Nat) (ks vs : List ByteArray) (w : World) (h0 : StrArg w x0 l0 ks) (h1 : StrArg w x1 l1 vs) (hl0 : l0 ≤ 65536) (hl1 : l1 ≤ 65536) :
    Calls Trym.prog 27 #[.slice x0 l0 c0, .slice x1 l1 c1] w fun e w' => LabelsOut e x0 w' ∧ Below w.heap.size w w' := by
  have qn : ∀ (w : World) (a : Option Addr) (l c : Nat), (binOp .eql 23 (.slice a l c) (.slice none 0 0)).run Trym.prog w = .ok (.bool a.isNone) w := fun w a l c => Lib.run_eql_slice_nil w _ _ a l c 0 0 Trym.underlying23
  have hmm := @run_makeMap Trym.prog
  cases x0 with
  | none =>
    go_enter Trym.func27, Trym.ntmps27
    go_wp2
    go_ret
    exact ⟨⟨none, rfl, rfl, .inl rfl⟩, Below.refl _ _⟩
  | some ad =>
    go_enter Trym.func27, Trym.ntmps27
    go_wp2_with (go_at_call 32; refine (min_any _ _ _).mono ?_; rintro e w' ⟨rfl, rfl⟩)
    obtain ⟨n, hn⟩ : ∃ n : Nat, n = min l0 l1 := ⟨_, rfl⟩
    have e1 : min (l0 : Int) (l1 : Int) = (n : Int) := by omega
    rw [e1]
    have hn0 : n ≤ l0 := by omega
    have hn1 : n ≤ l1 := by omega
    clear e1 hn qn hmm
    go_wp2_with fail
    go_loopw [7] (fun i wr => ∃ k : Nat, k ≤ n ∧ i = .int .i64 k ∧ (∃ D, wr.ownsMap (H := Unit) Trym.prog 9 (plainElem Trym.prog 9) w.heap.size k D) ∧ Below w.heap.size w wr) (fun i _ => n - (intOf i).toNat)
    case atStart => exact ⟨0, Nat.zero_le _, rfl, ⟨_, World.ownsMap_made _ _ _ _⟩, (Below.refl _ _).alloc (Nat.le_refl _) _⟩
    case round =>
      obtain ⟨k, hk, rfl, ⟨D, hown⟩, hb⟩ := hrel
      by_cases hlt : k < n
      · obtain ⟨b0, o0, had, hb0, hc0⟩ := h0.row.2.2.resolve_left (by omega)
        cases had
        obtain ⟨b1, o1, rfl, hb1, hc1⟩ := h1.row.2.2.resolve_left (by omega)
        have hk0 : k < ks.length := by have := h0.len; omega
        have hk1 : k < vs.length := by have := h1.len; omega
        obtain ⟨s, hs⟩ : ∃ s, s = ks[k] := ⟨_, rfl⟩
        obtain ⟨t, ht⟩ : ∃ t, t = vs[k] := ⟨_, rfl⟩
        have hsz : s.size ≤ maxLen := by rw [hs]; exact h0.fit _ (List.getElem_mem hk0)
        have htz : t.size ≤ maxLen := by rw [ht]; exact h1.fit _ (List.getElem_mem hk1)
        have ck : wr.cell? ⟨b0, o0 + k, none⟩ = some (.string s) := (hb.cell (p := ⟨b0, o0 + k, none⟩) hb0).trans (hc0 k _ (by simp [hk0, hs]))
        have cv : wr.cell? ⟨b1, o1 + k, none⟩ = some (.string t) := (hb.cell (p := ⟨b1, o1 + k, none⟩) hb1).trans (hc1 k _ (by simp [hk1, ht]))
        obtain ⟨w1, hrun, hown1, hgrow⟩ := hown.drew.update mapLaw Trym.underlying45 (by unfold maxLen; omega) (WideMaps.keyOf_string_mk Trym.underlying9 hsz) (plainElem_string Trym.underlying9 htz)
        have hlk : (k : Int) < (l0 : Int) := by omega
        have hlv : (k : Int) < (l1 : Int) := by omega
        have hb' : Below w.heap.size w w1 := hb.drew.grown hgrow hb.size (fun j hj => by cases hj; exact Nat.le_refl _)
        clear hs ht hc0 hc1 h0 h1 hgrow hk0 hk1
        go_wp2
        go_region
        go_wp2
        go_roundw
        case rel => exact ⟨k + 1, by omega, by go_num, ⟨_, hown1⟩, hb'⟩
        case measure => simp [intOf]; omega
      · go_wp2
        go_ret
        exact ⟨⟨_, rfl, rfl, .inr ⟨_, _, D, rfl, by omega, hown⟩⟩, hb⟩

end Go.Proofs.Qxb6001295aMods
