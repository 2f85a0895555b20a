import Derived.Test.Qxb6001295aModsRows
import Derived.Test.Qxb6001295aModsStrParts
import Derived.WalkSpells
import Derived.RegionTactic
import Derived.Deep.DeepCutAuto
import Derived.Lib.LazyBuf
namespace Go.Proofs.Qxb6001295aMods
open Go.RowKit
set_option linter.unusedVariables false

theorem ret_int {k : IntKind} {a b : Int} (h : a = b) : Ending.returned (.int k a) = .returned (.int k b) := by rw [h]

set_option maxHeartbeats 400000 in
theorem min_any (a b : Int) (w : World) : Calls Trym.prog 32 #[.int .i64 a, .int .i64 b] w fun e w' => e = .returned (.int .i64 (min a b)) ∧ w = w' := by
  by_cases h : a < b
  · have hm : min a b = a := by omega
    have HM : Hid (min a b = a) := hm
    clear hm
    go_enter Trym.func32, Trym.ntmps32
    go_wp2
    go_ret
    exact ⟨ret_int HM.out.symm, rfl⟩
  · have hm : min a b = b := by omega
    have HM : Hid (min a b = b) := hm
    clear hm
    go_enter Trym.func32, Trym.ntmps32
    go_wp2
    go_ret
    exact ⟨ret_int HM.out.symm, rfl⟩

set_option maxRecDepth 100000 in
set_option maxHeartbeats 400000 in
/-- zzStringsBytes: past the limit it answers the limit + 1; else sixteen a string and their lengths. -/
theorem strBytes_any (a : Option Addr) (len cap : Nat) (ss : List ByteArray) (w : World) (h : StrArg w a len ss) :
    Calls Trym.prog 10 #[.slice a len cap] w fun e w' => (∃ n : Int, e = .returned (.int .i64 n) ∧ (n = 1048577 ∨ (n = 16 * len + sumTo ss len ∧ n ≤ 1048576 ∧ len ≤ 65536))) ∧ w = w' := by
  have hlen := h.len
  have hm := h.row.2.1
  unfold maxLen at hm
  by_cases hbig : 65536 < len
  · go_enter Trym.func10, Trym.ntmps10
    go_wp2
    go_ret
    exact ⟨⟨1048577, rfl, .inl rfl⟩, rfl⟩
  · go_enter Trym.func10, Trym.ntmps10
    go_wp2
    go_loop [3, 4] (fun t i => ∃ k : Nat, k ≤ len ∧ i = .int .i64 k ∧ ∃ n : Int, t = .int .i64 n ∧ n = 16 * len + sumTo ss k ∧ n ≤ 1048576) (fun _ i => len - (intOf i).toNat)
    case atStart => exact ⟨0, Nat.zero_le _, rfl, _, rfl, by simp [sumTo_zero], by omega⟩
    case round =>
      obtain ⟨k, hk, rfl, n, rfl, hn, hle⟩ := hrel
      have HN : Hid (n = 16 * len + sumTo ss k) := hn
      have hn0 : 0 ≤ n := by omega
      clear hn
      by_cases hlt : k < len
      · obtain ⟨b, off, rfl, hb, hc⟩ := h.row.2.2.resolve_left (by omega)
        have hks : k < ss.length := by omega
        have hss := sumTo_succ ss k hks
        obtain ⟨s, hs⟩ : ∃ s, s = ss[k] := ⟨_, rfl⟩
        have hf : s.size ≤ 9223372036854775807 := by rw [hs]; exact h.fit _ (List.getElem_mem hks)
        rw [← hs] at hss
        have hck : w.cell? ⟨b, off + k, none⟩ = some (.string s) := hc k _ (by simp [hks, hs])
        have HS : Hid (sumTo ss (k + 1) = sumTo ss k + s.size) := hss
        clear hs hss h hc hlen
        go_wp2
        · go_ret
          exact ⟨⟨1048577, rfl, .inl rfl⟩, rfl⟩
        · go_ret
          exact ⟨⟨1048577, rfl, .inl rfl⟩, rfl⟩
        · go_round
          case rel => exact ⟨k + 1, by omega, by go_num, n + s.size, rfl, by rw [HS.out, HN.out]; omega, by omega⟩
          case measure => simp [intOf]; omega
      · have hk2 : k = len := by omega
        subst hk2
        go_wp2
        go_ret
        exact ⟨⟨n, rfl, .inr ⟨HN.out, hle, by omega⟩⟩, rfl⟩
theorem Trym.info9 : (Trym.prog.info? 9).map (fun i => (i.zero, i.size, i.bytes)) = some (some (.string ⟨#[]⟩), 1, 16) := by kernel_rfl

set_option maxRecDepth 100000 in
set_option maxHeartbeats 400000 in
/-- zzCloneStrings: nil stays nil; else a slice of its own with the same elements. -/
theorem clone_any (a : Option Addr) (len cap : Nat) (ss : List ByteArray) (w : World) (h : StrArg w a len ss) (hl : len ≤ 65536) (hnil : a = none → len = 0) :
    Calls Trym.prog 12 #[.slice a len cap] w fun e w' => ∃ a' cap', e = .returned (.slice a' len cap') ∧ StrArg w' a' len ss ∧ SameNil a' a ∧ Below w.heap.size w w' := by
  have qn : ∀ (w : World) (a : Option Addr) (l c : Nat), (binOp .eql 23 (.slice a l c) (.slice none 0 0)).run Trym.prog w = .ok (.bool a.isNone) w := fun w a l c => Lib.run_eql_slice_nil w _ _ a l c 0 0 Trym.underlying23
  obtain ⟨i9, i9a, i9b, i9c, i9d⟩ := info_parts Trym.info9
  have hlen := h.len
  cases a with
  | none =>
    have h0 := hnil rfl
    subst h0
    go_enter Trym.func12, Trym.ntmps12
    go_wp2
    go_ret
    exact ⟨none, ⟨0, rfl⟩, h, rfl, Below.refl _ _⟩
  | some ad =>
    clear hnil
    go_enter Trym.func12, Trym.ntmps12
    go_wp2_with (first | (at_make; refine wpList_make_full _ rfl _ _ 23 rfl w.heap.size 9 i9 _ 1 Trym.underlying23 i9a i9b i9c _ _ _ _ len rfl rfl rfl rfl (by rw [i9d]; omega) (by unfold maxLen; omega) (Nat.le_refl _) ?_) | go_in)
    intro w1 hown hg
    have hb1 : Below w.heap.size w w1 := (Below.refl _ _).grown hg (Nat.le_refl _) (fun k hk => by cases hk)
    have hvl : (ss.map Value.string).length = len := by simpa using hlen
    have hown0 : w1.ownsRow w.heap.size 9 1 (.slice (some ⟨w.heap.size, 0, none⟩) len len) len (cloneTo (.string ⟨#[]⟩) (ss.map .string) 0) := by
      rw [cloneTo_zero, hvl, ← made_one]
      exact hown
    clear hown hg i9a i9b i9c i9d
    have HV : Hid ((ss.map Value.string).length = len) := hvl
    clear hvl hlen
    go_wp2
    go_loopw [4] (fun i wr => ∃ k : Nat, k ≤ len ∧ i = .int .i64 k ∧ wr.ownsRow w.heap.size 9 1 (.slice (some ⟨w.heap.size, 0, none⟩) len len) len (cloneTo (.string ⟨#[]⟩) (ss.map .string) k) ∧ Below w.heap.size w wr) (fun i _ => len - (intOf i).toNat)
    case atStart => exact ⟨0, Nat.zero_le _, rfl, hown0, hb1⟩
    case round =>
      clear hown0 hb1
      obtain ⟨k, hk, rfl, hown, hb⟩ := hrel
      by_cases hlt : k < len
      · obtain ⟨b, off, had, hbl, hc⟩ := h.row.2.2.resolve_left (by omega)
        cases had
        have hks : k < (ss.map Value.string).length := by rw [HV.out]; exact hlt
        obtain ⟨u, hu⟩ : ∃ u, u = (ss.map Value.string)[k] := ⟨_, rfl⟩
        have c0 : wr.cell? ⟨b, off + k, none⟩ = some u := (hb.cell (p := ⟨b, off + k, none⟩) hbl).trans (hc k u (by rw [hu]; exact List.getElem?_eq_getElem hks))
        have c1 : wr.cell? ⟨w.heap.size, k, none⟩ = some (.string ⟨#[]⟩) := (hown.cellAt k (by omega)).trans (cloneTo_at _ _ k hks)
        have z1 := hown.frozenAt k
        have hst := hown.stored k u
        have R : (wr.setCell ⟨w.heap.size, k, none⟩ u).ownsRow w.heap.size 9 1 (.slice (some ⟨w.heap.size, 0, none⟩) len len) len (cloneTo (.string ⟨#[]⟩) (ss.map .string) (k + 1)) := by
          rw [← cloneTo_step _ _ k hks, ← hu]
          exact hst.1
        have HR : Hid _ := R
        have hs1 : ∃ s, u = .string s := by rw [hu, List.getElem_map]; exact ⟨_, rfl⟩
        obtain ⟨s, rfl⟩ := hs1
        clear hu hst R hc hks h
        go_wp2
        go_roundw
        case rel => exact ⟨k + 1, by omega, by go_num, HR.out, hb.setCell (Nat.le_refl _) _⟩
        case measure => simp [intOf]; omega
      · have hk2 : k = len := by omega
        have hown2 : wr.ownsRow w.heap.size 9 1 (.slice (some ⟨w.heap.size, 0, none⟩) len len) len (ss.map .string) := by
          have e := cloneTo_all (.string ⟨#[]⟩) (ss.map Value.string)
          rw [HV.out, ← hk2] at e
          rw [← e]
          exact hown
        have HA := StrArg.of_own hown2 h.fit h.row.2.1
        clear hown hown2 hk2
        go_wp2
        go_ret
        exact ⟨_, _, rfl, HA, rfl, hb⟩

end Go.Proofs.Qxb6001295aMods
