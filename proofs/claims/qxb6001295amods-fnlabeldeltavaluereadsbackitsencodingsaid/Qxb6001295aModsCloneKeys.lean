import Derived.Test.Qxb6001295aModsStrs
import Derived.Test.Qxb6001295aModsKeyParts
import Derived.Test.Qxb6001295aModsValue
namespace Go.Proofs.Qxb6001295aMods
open Go.RowKit
set_option linter.unusedVariables false

theorem Trym.info51 : (Trym.prog.info? 51).map (fun i => (i.zero, i.size, i.bytes)) = some (some (.int .u64 0), 1, 8) := by kernel_rfl

set_option maxRecDepth 100000 in
set_option maxHeartbeats 400000 in
/-- zzCloneKeys: nil stays nil; else a slice of its own with the same elements. -/
theorem cloneKeys_any (a : Option Addr) (len cap : Nat) (ks : List Nat) (w : World) (h : KeyArg w a len ks) (hl : len ≤ 65536) (hnil : a = none → len = 0) :
    Calls Trym.prog 11 #[.slice a len cap] w fun e w' => ∃ a' cap', e = .returned (.slice a' len cap') ∧ KeyArg w' a' len ks ∧ SameNil a' a ∧ Below w.heap.size w w' := by
  have qn : ∀ (w : World) (a : Option Addr) (l c : Nat), (binOp .eql 22 (.slice a l c) (.slice none 0 0)).run Trym.prog w = .ok (.bool a.isNone) w := fun w a l c => Lib.run_eql_slice_nil w _ _ a l c 0 0 Trym.underlying22
  obtain ⟨i51, i51a, i51b, i51c, i51d⟩ := info_parts Trym.info51
  have hlen := h.len
  cases a with
  | none =>
    have h0 := hnil rfl
    subst h0
    go_enter Trym.func11, Trym.ntmps11
    go_wp2
    go_ret
    exact ⟨none, ⟨0, rfl⟩, h, rfl, Below.refl _ _⟩
  | some ad =>
    clear hnil
    go_enter Trym.func11, Trym.ntmps11
    go_wp2_with (first | (at_make; refine wpList_make_full _ rfl _ _ 22 rfl w.heap.size 51 i51 _ 1 Trym.underlying22 i51a i51b i51c _ _ _ _ len rfl rfl rfl rfl (by rw [i51d]; omega) (by unfold maxLen; omega) (Nat.le_refl _) ?_) | go_in)
    intro w1 hown hg
    have hb1 : Below w.heap.size w w1 := (Below.refl _ _).grown hg (Nat.le_refl _) (fun k hk => by cases hk)
    have hvl : (ks.map keyV).length = len := by simpa using hlen
    have hown0 : w1.ownsRow w.heap.size 51 1 (.slice (some ⟨w.heap.size, 0, none⟩) len len) len (cloneTo (.int .u64 0) (ks.map keyV) 0) := by
      rw [cloneTo_zero, hvl, ← made_one]
      exact hown
    clear hown hg i51a i51b i51c i51d
    have HV : Hid ((ks.map keyV).length = len) := hvl
    clear hvl hlen
    go_wp2
    go_loopw [4] (fun i wr => ∃ k : Nat, k ≤ len ∧ i = .int .i64 k ∧ wr.ownsRow w.heap.size 51 1 (.slice (some ⟨w.heap.size, 0, none⟩) len len) len (cloneTo (.int .u64 0) (ks.map keyV) k) ∧ Below w.heap.size w wr) (fun i _ => len - (intOf i).toNat)
    case atStart => exact ⟨0, Nat.zero_le _, rfl, hown0, hb1⟩
    case round =>
      clear hown0 hb1
      obtain ⟨k, hk, rfl, hown, hb⟩ := hrel
      by_cases hlt : k < len
      · obtain ⟨b, off, had, hbl, hc⟩ := h.row.2.2.resolve_left (by omega)
        cases had
        have hks : k < (ks.map keyV).length := by rw [HV.out]; exact hlt
        obtain ⟨u, hu⟩ : ∃ u, u = (ks.map keyV)[k] := ⟨_, rfl⟩
        have c0 : wr.cell? ⟨b, off + k, none⟩ = some u := (hb.cell (p := ⟨b, off + k, none⟩) hbl).trans (hc k u (by rw [hu]; exact List.getElem?_eq_getElem hks))
        have c1 : wr.cell? ⟨w.heap.size, k, none⟩ = some (.int .u64 0) := (hown.cellAt k (by omega)).trans (cloneTo_at _ _ k hks)
        have z1 := hown.frozenAt k
        have hst := hown.stored k u
        have R : (wr.setCell ⟨w.heap.size, k, none⟩ u).ownsRow w.heap.size 51 1 (.slice (some ⟨w.heap.size, 0, none⟩) len len) len (cloneTo (.int .u64 0) (ks.map keyV) (k + 1)) := by
          rw [← cloneTo_step _ _ k hks, ← hu]
          exact hst.1
        have HR : Hid _ := R
        have hs1 : ∃ s : Nat, u = .int .u64 (s : Int) := by rw [hu, List.getElem_map]; exact ⟨_, rfl⟩
        obtain ⟨s, rfl⟩ := hs1
        clear hu hst R hc hks h
        go_wp2
        go_roundw
        case rel => exact ⟨k + 1, by omega, by go_num, HR.out, hb.setCell (Nat.le_refl _) _⟩
        case measure => simp [intOf]; omega
      · have hk2 : k = len := by omega
        have hown2 : wr.ownsRow w.heap.size 51 1 (.slice (some ⟨w.heap.size, 0, none⟩) len len) len (ks.map keyV) := by
          have e := cloneTo_all (.int .u64 0) (ks.map keyV)
          rw [HV.out, ← hk2] at e
          rw [← e]
          exact hown
        have HA := KeyArg.of_own hown2 h.fit h.row.2.1
        clear hown hown2 hk2
        go_wp2
        go_ret
        exact ⟨_, _, rfl, HA, rfl, hb⟩

end Go.Proofs.Qxb6001295aMods
