import Derived.Test.Qxb6001295aModsLabels
namespace Go.Proofs.Qxb6001295aMods
open Go.RowKit Go.Maps
set_option linter.unusedVariables false

theorem zero9 (w : World) : (zeroValue 9).run Trym.prog w = .ok (.string ⟨#[]⟩) w := by kernel_rfl

set_option maxRecDepth 100000 in
set_option maxHeartbeats 800000 in
theorem same_nil (x : Option Addr) (l c : Nat) (ks : List ByteArray) (w : World) (h : StrArg w x l ks) (hl : l ≤ 65536) :
    Calls Trym.prog 31 #[.map none, .map none, .slice x l c] w fun e w' => e = .returned (.bool true) ∧ w = w' := by
  have qm : ∀ (w : World) (r : Option Nat), (binOp .eql 45 (.map r) (.map none)).run Trym.prog w = .ok (.bool r.isNone) w := fun w r => run_eql_map_nil w _ _ _ r Trym.underlying45
  have ql : ∀ (w : World) (ty : TypeId), (Builtin.len_ #[45] ty #[.map none]).run Trym.prog w = .ok (.int .i64 0) w := fun w ty => Maps.len_nil Trym.underlying45 ty
  go_enter Trym.func31, Trym.ntmps31
  go_wp2
  go_loop [7] (fun i => ∃ k : Nat, k ≤ l ∧ i = .int .i64 k) (fun i => l - (intOf i).toNat)
  case atStart => exact ⟨0, Nat.zero_le _, rfl⟩
  case round =>
    obtain ⟨k, hk, rfl⟩ := hrel
    by_cases hlt : k < l
    · obtain ⟨b0, o0, rfl, hb0, hc0⟩ := h.row.2.2.resolve_left (by omega)
      have hk0 : k < ks.length := by have := h.len; omega
      obtain ⟨s, hs⟩ : ∃ s, s = ks[k] := ⟨_, rfl⟩
      have hsz : s.size ≤ maxLen := by rw [hs]; exact h.fit _ (List.getElem_mem hk0)
      have ck : w.cell? ⟨b0, o0 + k, none⟩ = some (.string s) := hc0 k _ (by simp [hk0, hs])
      have hrun := Maps.look_nil (w := w) true mapLaw Trym.underlying45 (zero9 w) (WideMaps.keyOf_string_mk Trym.underlying9 hsz)
      clear hs hc0 h hk0
      go_wp2
      go_round
      case rel => exact ⟨k + 1, by omega, by go_num⟩
      case measure => simp [intOf]; omega
    · go_wp2
      go_ret
      exact ⟨rfl, rfl⟩

set_option maxRecDepth 100000 in
set_option maxHeartbeats 800000 in
theorem same_some (b n : Nat) (D : DataW Unit) (x : Option Addr) (l c : Nat) (ks : List ByteArray) (w : World) (hn : n ≤ 65536) (hown : w.ownsMap Trym.prog 9 (plainElem Trym.prog 9) b n D) (h : StrArg w x l ks) (hl : l ≤ 65536) :
    Calls Trym.prog 31 #[.map (some b), .map (some b), .slice x l c] w fun e w' => e = .returned (.bool true) ∧ w = w' := by
  have qm : ∀ (w : World) (r : Option Nat), (binOp .eql 45 (.map r) (.map none)).run Trym.prog w = .ok (.bool r.isNone) w := fun w r => run_eql_map_nil w _ _ _ r Trym.underlying45
  have ql : ∀ (ty : TypeId), (Builtin.len_ #[45] ty #[.map (some b)]).run Trym.prog w = .ok (.int .i64 (Maps.size D)) w := fun ty => hown.len Trym.underlying45 ty
  have HO : Hid (w.ownsMap Trym.prog 9 (plainElem Trym.prog 9) b n D) := hown
  clear hown
  go_enter Trym.func31, Trym.ntmps31
  go_wp2
  go_goals
  go_loop [7] (fun i => ∃ k : Nat, k ≤ l ∧ i = .int .i64 k) (fun i => l - (intOf i).toNat)
  case atStart => exact ⟨0, Nat.zero_le _, rfl⟩
  case round =>
    obtain ⟨k, hk, rfl⟩ := hrel
    by_cases hlt : k < l
    · obtain ⟨b0, o0, rfl, hb0, hc0⟩ := h.row.2.2.resolve_left (by omega)
      have hk0 : k < ks.length := by have := h.len; omega
      obtain ⟨s, hs⟩ : ∃ s, s = ks[k] := ⟨_, rfl⟩
      have hsz : s.size ≤ maxLen := by rw [hs]; exact h.fit _ (List.getElem_mem hk0)
      have ck : w.cell? ⟨b0, o0 + k, none⟩ = some (.string s) := hc0 k _ (by simp [hk0, hs])
      obtain ⟨v, ps, hrun, hv⟩ := HO.out.look_ok mapLaw Trym.underlying45 (zero9 w) (plainElem_string Trym.underlying9 (s := ⟨#[]⟩) (by decide)) (WideMaps.keyOf_string_mk Trym.underlying9 hsz)
      obtain ⟨t, rfl, _, _⟩ := plainElem_string_inv Trym.underlying9 hv
      clear hs hc0 h hk0 hv
      cases hh : Maps.has D (.string s.data.toList)
      · rw [hh] at hrun
        clear hh
        go_wp2
        go_round
        case rel => exact ⟨k + 1, by omega, by go_num⟩
        case measure => simp [intOf]; omega
      · rw [hh] at hrun
        clear hh
        go_wp2
        go_round
        case rel => exact ⟨k + 1, by omega, by go_num⟩
        case measure => simp [intOf]; omega
    · go_wp2
      go_ret
      exact ⟨rfl, rfl⟩

theorem same_any (m : Option Nat) (x : Option Addr) (l c : Nat) (ks : List ByteArray) (w : World) (hm : MapAt w m) (h : StrArg w x l ks) (hl : l ≤ 65536) :
    Calls Trym.prog 31 #[.map m, .map m, .slice x l c] w fun e w' => e = .returned (.bool true) ∧ w = w' := by
  rcases hm with rfl | ⟨b, n, D, rfl, hn, hown⟩
  · exact same_nil x l c ks w h hl
  · exact same_some b n D x l c ks w hn hown h hl

end Go.Proofs.Qxb6001295aMods
