import Derived.Test.Qxb6001295aModsPeerSmall
namespace Go.Proofs.Qxb6001295aMods
open Go.RowKit
set_option linter.unusedVariables false


set_option maxRecDepth 100000 in
set_option maxHeartbeats 4000000 in
/-- Eight loops that count: some bool comes back; nothing is written. -/
theorem bytes30_any (a0 a1 a2 : Bool) (x0 : Option Addr) (l0 c0 : Nat) (x1 : Option Addr) (l1 c1 : Nat) (x2 : Option Addr) (l2 c2 : Nat) (x3 : Option Addr) (l3 c3 : Nat) (x4 : Option Addr) (l4 c4 : Nat) (x5 : Option Addr) (l5 c5 : Nat) (x6 : Option Addr) (l6 c6 : Nat) (x7 : Option Addr) (l7 c7 : Nat) (a7 : Bool) (w : World) (ss0 : List ByteArray) (h0 : StrArg w x0 l0 ss0) (ss1 : List ByteArray) (h1 : StrArg w x1 l1 ss1) (ss2 : List ByteArray) (h2 : StrArg w x2 l2 ss2) (ss3 : List ByteArray) (h3 : StrArg w x3 l3 ss3) (ss4 : List ByteArray) (h4 : StrArg w x4 l4 ss4) (ss5 : List ByteArray) (h5 : StrArg w x5 l5 ss5) (ss6 : List ByteArray) (h6 : StrArg w x6 l6 ss6) (ss7 : List ByteArray) (h7 : StrArg w x7 l7 ss7) :
    Calls Trym.prog 30 #[.bool a0, .bool a1, .bool a2, .slice x0 l0 c0, .slice x1 l1 c1, .slice x2 l2 c2, .slice x3 l3 c3, .bool a7, .slice x4 l4 c4, .slice x5 l5 c5, .slice x6 l6 c6, .slice x7 l7 c7] w fun e w' => SomeBool e ∧ w = w' := by
  have m0 : l0 ≤ 9223372036854775807 := h0.row.2.1
  have m1 : l1 ≤ 9223372036854775807 := h1.row.2.1
  have m2 : l2 ≤ 9223372036854775807 := h2.row.2.1
  have m3 : l3 ≤ 9223372036854775807 := h3.row.2.1
  have m4 : l4 ≤ 9223372036854775807 := h4.row.2.1
  have m5 : l5 ≤ 9223372036854775807 := h5.row.2.1
  have m6 : l6 ≤ 9223372036854775807 := h6.row.2.1
  have m7 : l7 ≤ 9223372036854775807 := h7.row.2.1
  go_enter Trym.func30, Trym.ntmps30
  go_wp2
  any_goals (go_ret; exact ⟨⟨_, rfl⟩, rfl⟩)
  go_loop [25, 26] (fun t i => ∃ k : Nat, k ≤ l0 ∧ i = .int .i64 k ∧ ∃ n : Int, t = .int .i64 n ∧ 0 ≤ n ∧ n ≤ 1048576) (fun _ i => l0 - (intOf i).toNat)
  case atStart => exact ⟨0, Nat.zero_le _, rfl, _, rfl, by omega, by omega⟩
  case round =>
    obtain ⟨k0, hk0, rfl, n0, rfl, hn0, hm0⟩ := hrel
    by_cases hlt : k0 < l0
    · obtain ⟨b, off, rfl, hb, hc⟩ := h0.row.2.2.resolve_left (by omega)
      have hks : k0 < ss0.length := by have := h0.len; omega
      obtain ⟨s, hs⟩ : ∃ s, s = ss0[k0] := ⟨_, rfl⟩
      have hf : s.size ≤ 9223372036854775807 := by rw [hs]; exact h0.fit _ (List.getElem_mem hks)
      have hck : w.cell? ⟨b, off + k0, none⟩ = some (.string s) := hc k0 _ (by simp [hks, hs])
      clear hs hc hks h0 h1 h2 h3 h4 h5 h6 h7
      go_wp2
      · go_ret
        exact ⟨⟨_, rfl⟩, rfl⟩
      · go_ret
        exact ⟨⟨_, rfl⟩, rfl⟩
      · go_round
        case rel => exact ⟨k0 + 1, by omega, by go_num, n0 + s.size, rfl, by omega, by omega⟩
        case measure => simp [intOf]; omega
    · clear h0
      go_wp2
      any_goals (go_ret; exact ⟨⟨_, rfl⟩, rfl⟩)
      go_loop [25, 27] (fun t i => ∃ k : Nat, k ≤ l1 ∧ i = .int .i64 k ∧ ∃ n : Int, t = .int .i64 n ∧ 0 ≤ n ∧ n ≤ 1048576) (fun _ i => l1 - (intOf i).toNat)
      case atStart => exact ⟨0, Nat.zero_le _, rfl, _, rfl, by omega, by omega⟩
      case round =>
        obtain ⟨k1, hk1, rfl, n1, rfl, hn1, hm1⟩ := hrel
        by_cases hlt : k1 < l1
        · obtain ⟨b, off, rfl, hb, hc⟩ := h1.row.2.2.resolve_left (by omega)
          have hks : k1 < ss1.length := by have := h1.len; omega
          obtain ⟨s, hs⟩ : ∃ s, s = ss1[k1] := ⟨_, rfl⟩
          have hf : s.size ≤ 9223372036854775807 := by rw [hs]; exact h1.fit _ (List.getElem_mem hks)
          have hck : w.cell? ⟨b, off + k1, none⟩ = some (.string s) := hc k1 _ (by simp [hks, hs])
          clear hs hc hks h1 h2 h3 h4 h5 h6 h7
          go_wp2
          · go_ret
            exact ⟨⟨_, rfl⟩, rfl⟩
          · go_ret
            exact ⟨⟨_, rfl⟩, rfl⟩
          · go_round
            case rel => exact ⟨k1 + 1, by omega, by go_num, n1 + s.size, rfl, by omega, by omega⟩
            case measure => simp [intOf]; omega
        · clear h1
          go_wp2
          any_goals (go_ret; exact ⟨⟨_, rfl⟩, rfl⟩)
          go_loop [25, 28] (fun t i => ∃ k : Nat, k ≤ l2 ∧ i = .int .i64 k ∧ ∃ n : Int, t = .int .i64 n ∧ 0 ≤ n ∧ n ≤ 1048576) (fun _ i => l2 - (intOf i).toNat)
          case atStart => exact ⟨0, Nat.zero_le _, rfl, _, rfl, by omega, by omega⟩
          case round =>
            obtain ⟨k2, hk2, rfl, n2, rfl, hn2, hm2⟩ := hrel
            by_cases hlt : k2 < l2
            · obtain ⟨b, off, rfl, hb, hc⟩ := h2.row.2.2.resolve_left (by omega)
              have hks : k2 < ss2.length := by have := h2.len; omega
              obtain ⟨s, hs⟩ : ∃ s, s = ss2[k2] := ⟨_, rfl⟩
              have hf : s.size ≤ 9223372036854775807 := by rw [hs]; exact h2.fit _ (List.getElem_mem hks)
              have hck : w.cell? ⟨b, off + k2, none⟩ = some (.string s) := hc k2 _ (by simp [hks, hs])
              clear hs hc hks h2 h3 h4 h5 h6 h7
              go_wp2
              · go_ret
                exact ⟨⟨_, rfl⟩, rfl⟩
              · go_ret
                exact ⟨⟨_, rfl⟩, rfl⟩
              · go_round
                case rel => exact ⟨k2 + 1, by omega, by go_num, n2 + s.size, rfl, by omega, by omega⟩
                case measure => simp [intOf]; omega
            · clear h2
              go_wp2
              any_goals (go_ret; exact ⟨⟨_, rfl⟩, rfl⟩)
              go_loop [25, 29] (fun t i => ∃ k : Nat, k ≤ l3 ∧ i = .int .i64 k ∧ ∃ n : Int, t = .int .i64 n ∧ 0 ≤ n ∧ n ≤ 1048576) (fun _ i => l3 - (intOf i).toNat)
              case atStart => exact ⟨0, Nat.zero_le _, rfl, _, rfl, by omega, by omega⟩
              case round =>
                obtain ⟨k3, hk3, rfl, n3, rfl, hn3, hm3⟩ := hrel
                by_cases hlt : k3 < l3
                · obtain ⟨b, off, rfl, hb, hc⟩ := h3.row.2.2.resolve_left (by omega)
                  have hks : k3 < ss3.length := by have := h3.len; omega
                  obtain ⟨s, hs⟩ : ∃ s, s = ss3[k3] := ⟨_, rfl⟩
                  have hf : s.size ≤ 9223372036854775807 := by rw [hs]; exact h3.fit _ (List.getElem_mem hks)
                  have hck : w.cell? ⟨b, off + k3, none⟩ = some (.string s) := hc k3 _ (by simp [hks, hs])
                  clear hs hc hks h3 h4 h5 h6 h7
                  go_wp2
                  · go_ret
                    exact ⟨⟨_, rfl⟩, rfl⟩
                  · go_ret
                    exact ⟨⟨_, rfl⟩, rfl⟩
                  · go_round
                    case rel => exact ⟨k3 + 1, by omega, by go_num, n3 + s.size, rfl, by omega, by omega⟩
                    case measure => simp [intOf]; omega
                · clear h3
                  go_wp2
                  any_goals (go_ret; exact ⟨⟨_, rfl⟩, rfl⟩)
                  go_loop [25, 30] (fun t i => ∃ k : Nat, k ≤ l4 ∧ i = .int .i64 k ∧ ∃ n : Int, t = .int .i64 n ∧ 0 ≤ n ∧ n ≤ 1048576) (fun _ i => l4 - (intOf i).toNat)
                  case atStart => exact ⟨0, Nat.zero_le _, rfl, _, rfl, by omega, by omega⟩
                  case round =>
                    obtain ⟨k4, hk4, rfl, n4, rfl, hn4, hm4⟩ := hrel
                    by_cases hlt : k4 < l4
                    · obtain ⟨b, off, rfl, hb, hc⟩ := h4.row.2.2.resolve_left (by omega)
                      have hks : k4 < ss4.length := by have := h4.len; omega
                      obtain ⟨s, hs⟩ : ∃ s, s = ss4[k4] := ⟨_, rfl⟩
                      have hf : s.size ≤ 9223372036854775807 := by rw [hs]; exact h4.fit _ (List.getElem_mem hks)
                      have hck : w.cell? ⟨b, off + k4, none⟩ = some (.string s) := hc k4 _ (by simp [hks, hs])
                      clear hs hc hks h4 h5 h6 h7
                      go_wp2
                      · go_ret
                        exact ⟨⟨_, rfl⟩, rfl⟩
                      · go_ret
                        exact ⟨⟨_, rfl⟩, rfl⟩
                      · go_round
                        case rel => exact ⟨k4 + 1, by omega, by go_num, n4 + s.size, rfl, by omega, by omega⟩
                        case measure => simp [intOf]; omega
                    · clear h4
                      go_wp2
                      any_goals (go_ret; exact ⟨⟨_, rfl⟩, rfl⟩)
                      go_loop [25, 31] (fun t i => ∃ k : Nat, k ≤ l5 ∧ i = .int .i64 k ∧ ∃ n : Int, t = .int .i64 n ∧ 0 ≤ n ∧ n ≤ 1048576) (fun _ i => l5 - (intOf i).toNat)
                      case atStart => exact ⟨0, Nat.zero_le _, rfl, _, rfl, by omega, by omega⟩
                      case round =>
                        obtain ⟨k5, hk5, rfl, n5, rfl, hn5, hm5⟩ := hrel
                        by_cases hlt : k5 < l5
                        · obtain ⟨b, off, rfl, hb, hc⟩ := h5.row.2.2.resolve_left (by omega)
                          have hks : k5 < ss5.length := by have := h5.len; omega
                          obtain ⟨s, hs⟩ : ∃ s, s = ss5[k5] := ⟨_, rfl⟩
                          have hf : s.size ≤ 9223372036854775807 := by rw [hs]; exact h5.fit _ (List.getElem_mem hks)
                          have hck : w.cell? ⟨b, off + k5, none⟩ = some (.string s) := hc k5 _ (by simp [hks, hs])
                          clear hs hc hks h5 h6 h7
                          go_wp2
                          · go_ret
                            exact ⟨⟨_, rfl⟩, rfl⟩
                          · go_ret
                            exact ⟨⟨_, rfl⟩, rfl⟩
                          · go_round
                            case rel => exact ⟨k5 + 1, by omega, by go_num, n5 + s.size, rfl, by omega, by omega⟩
                            case measure => simp [intOf]; omega
                        · clear h5
                          go_wp2
                          any_goals (go_ret; exact ⟨⟨_, rfl⟩, rfl⟩)
                          go_loop [25, 32] (fun t i => ∃ k : Nat, k ≤ l6 ∧ i = .int .i64 k ∧ ∃ n : Int, t = .int .i64 n ∧ 0 ≤ n ∧ n ≤ 1048576) (fun _ i => l6 - (intOf i).toNat)
                          case atStart => exact ⟨0, Nat.zero_le _, rfl, _, rfl, by omega, by omega⟩
                          case round =>
                            obtain ⟨k6, hk6, rfl, n6, rfl, hn6, hm6⟩ := hrel
                            by_cases hlt : k6 < l6
                            · obtain ⟨b, off, rfl, hb, hc⟩ := h6.row.2.2.resolve_left (by omega)
                              have hks : k6 < ss6.length := by have := h6.len; omega
                              obtain ⟨s, hs⟩ : ∃ s, s = ss6[k6] := ⟨_, rfl⟩
                              have hf : s.size ≤ 9223372036854775807 := by rw [hs]; exact h6.fit _ (List.getElem_mem hks)
                              have hck : w.cell? ⟨b, off + k6, none⟩ = some (.string s) := hc k6 _ (by simp [hks, hs])
                              clear hs hc hks h6 h7
                              go_wp2
                              · go_ret
                                exact ⟨⟨_, rfl⟩, rfl⟩
                              · go_ret
                                exact ⟨⟨_, rfl⟩, rfl⟩
                              · go_round
                                case rel => exact ⟨k6 + 1, by omega, by go_num, n6 + s.size, rfl, by omega, by omega⟩
                                case measure => simp [intOf]; omega
                            · clear h6
                              go_wp2
                              any_goals (go_ret; exact ⟨⟨_, rfl⟩, rfl⟩)
                              go_loop [25, 33] (fun t i => ∃ k : Nat, k ≤ l7 ∧ i = .int .i64 k ∧ ∃ n : Int, t = .int .i64 n ∧ 0 ≤ n ∧ n ≤ 1048576) (fun _ i => l7 - (intOf i).toNat)
                              case atStart => exact ⟨0, Nat.zero_le _, rfl, _, rfl, by omega, by omega⟩
                              case round =>
                                obtain ⟨k7, hk7, rfl, n7, rfl, hn7, hm7⟩ := hrel
                                by_cases hlt : k7 < l7
                                · obtain ⟨b, off, rfl, hb, hc⟩ := h7.row.2.2.resolve_left (by omega)
                                  have hks : k7 < ss7.length := by have := h7.len; omega
                                  obtain ⟨s, hs⟩ : ∃ s, s = ss7[k7] := ⟨_, rfl⟩
                                  have hf : s.size ≤ 9223372036854775807 := by rw [hs]; exact h7.fit _ (List.getElem_mem hks)
                                  have hck : w.cell? ⟨b, off + k7, none⟩ = some (.string s) := hc k7 _ (by simp [hks, hs])
                                  clear hs hc hks h7
                                  go_wp2
                                  · go_ret
                                    exact ⟨⟨_, rfl⟩, rfl⟩
                                  · go_ret
                                    exact ⟨⟨_, rfl⟩, rfl⟩
                                  · go_round
                                    case rel => exact ⟨k7 + 1, by omega, by go_num, n7 + s.size, rfl, by omega, by omega⟩
                                    case measure => simp [intOf]; omega
                                · clear h7
                                  go_wp2
                                  go_ret
                                  exact ⟨⟨_, rfl⟩, rfl⟩

end Go.Proofs.Qxb6001295aMods
