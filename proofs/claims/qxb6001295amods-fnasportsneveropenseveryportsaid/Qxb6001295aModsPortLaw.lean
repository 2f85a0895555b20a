import Derived.Test.Qxb6001295aModsZZPorts
import Derived.WalkSmall
namespace Go.Proofs.Qxb6001295aMods
open Go.RowKit
set_option linter.unusedVariables false

set_option maxRecDepth 100000 in
set_option maxHeartbeats 800000 in
theorem ports_long (a0 : Bool) (a1 : ByteArray) (a2 : Int) (a3 : Bool) (a4 : ByteArray) (a5 : Int) (a6 : Int) (a7 : Bool) (a8 : ByteArray) (w1 : a1.size ≤ maxLen) (w4 : a4.size ≤ maxLen) (w8 : a8.size ≤ maxLen) (w : World)
    (h : ¬ (a1.size ≤ 65536 ∧ a4.size ≤ 65536 ∧ a8.size ≤ 65536)) :
    Calls Trym.prog 6 #[.bool a0, .string a1, .int .i64 a2, .bool a3, .string a4, .int .i64 a5, .int .i64 a6, .bool a7, .string a8] w fun e w' => e = .returned (.bool true) ∧ Below w.heap.size w w' := by
  unfold maxLen at w1 w4 w8
  by_cases h1 : a1.size ≤ 65536
  · by_cases h4 : a4.size ≤ 65536
    · have h8 : 65536 < a8.size := by omega
      clear h
      go_enter Trym.func6, Trym.ntmps6
      go_wp2
      all_goals
        go_ret
        exact ⟨rfl, Below.refl _ _⟩
    · clear h
      go_enter Trym.func6, Trym.ntmps6
      go_wp2
      all_goals
        go_ret
        exact ⟨rfl, Below.refl _ _⟩
  · clear h
    go_enter Trym.func6, Trym.ntmps6
    go_wp2
    all_goals
      go_ret
      exact ⟨rfl, Below.refl _ _⟩

set_option maxHeartbeats 400000 in
theorem bytes22 (a0 : Bool) (a1 : ByteArray) (a2 : Int) (a3 : Bool) (a4 : ByteArray) (a5 : Int) (a6 : Int) (a7 : Bool) (a8 : ByteArray) (w : World)
    (h1 : a1.size ≤ 65536) (h4 : a4.size ≤ 65536) (h8 : a8.size ≤ 65536) :
    Calls Trym.prog 22 #[.bool a0, .string a1, .int .i64 a2, .bool a3, .string a4, .int .i64 a5, .int .i64 a6, .bool a7, .string a8] w fun e w' => e = .returned (.bool true) ∧ w = w' := by
  go_enter Trym.func22, Trym.ntmps22
  go_wp2
  go_ret
  exact ⟨rfl, rfl⟩

set_option maxRecDepth 100000 in
set_option maxHeartbeats 800000 in
theorem ports_short (a0 : Bool) (a1 : ByteArray) (a2 : Int) (a3 : Bool) (a4 : ByteArray) (a5 : Int) (a6 : Int) (a7 : Bool) (a8 : ByteArray) (w : World)
    (h1 : a1.size ≤ 65536) (h4 : a4.size ≤ 65536) (h8 : a8.size ≤ 65536) :
    Calls Trym.prog 6 #[.bool a0, .string a1, .int .i64 a2, .bool a3, .string a4, .int .i64 a5, .int .i64 a6, .bool a7, .string a8] w fun e w' => e = .returned (.bool true) ∧ Below w.heap.size w w' := by
  go_enter Trym.func6, Trym.ntmps6
  go_wp2_with (go_at_call 22; refine (bytes22 _ _ _ _ _ _ _ _ _ _ h1 h4 h8).mono ?_; rintro e w' ⟨rfl, rfl⟩)
  refine (zzAsPorts_any _ _ _ _ _ _ _ _ _ _).mono ?_
  rintro e w1 ⟨v0, v1, v2, v3, v4, rfl, hF, hb⟩
  have hpos := protosOf_pos a0 a1 a3 a4 a7
  have hle := protosOf_le a0 a1 a3 a4 a7
  have hpw := protosOf_pw a0 a1 a3 a4 a7
  generalize protosOf a0 a1 a3 a4 a7 = P at hF hpos hle hpw
  obtain ⟨ao0, cap0, rfl, hl0, hc0⟩ := row1_view hF.o0
  obtain ⟨ao1, cap1, rfl, hl1, hc1⟩ := row1_view hF.o1
  have HP0 : Hid _ := hpos
  have HPW : Hid _ := hpw
  have HC0 : Hid _ := hc0
  have HC1 : Hid _ := hc1
  clear hF hpos hpw hc0 hc1 hl0 hl1
  go_upto_region 10 with fail
  go_cut [24] (fun s wc => s = .bool (a0 || a3 || a7) ∧ wc = w1)
  case first =>
    cases a0 <;> cases a3 <;> cases a7
    all_goals
      go_wp2
      go_meet
      exact ⟨rfl, rfl⟩
  case rest =>
    obtain ⟨rfl, rfl⟩ := hcut
    rw [HP0.out]
    by_cases hn : P.length = 0
    all_goals
      go_wp2
      clear hn
      go_loopw [25] (fun i wr => ∃ j : Nat, j ≤ P.length ∧ i = .int .i64 j ∧ (∀ b o, wr.cell? ⟨b, o, none⟩ = wc.cell? ⟨b, o, none⟩) ∧ Below w.heap.size w wr) (fun i _ => P.length - (intOf i).toNat)
      case atStart => exact ⟨0, Nat.zero_le _, rfl, fun _ _ => rfl, hb⟩
      case round =>
        obtain ⟨j, hj, rfl, hcc, hbr⟩ := hrel
        by_cases hlt : j < P.length
        · obtain ⟨g0, rfl, _, _, cl0⟩ := HC0.out j hlt
          obtain ⟨g1, rfl, _, _, cl1⟩ := HC1.out j hlt
          have CL0 : Hid _ := cl0
          have c1 : wc.cell? ⟨g1, j, none⟩ = some (.bool true) := cl1 j _ (by simp [hlt])
          have c0 : wc.cell? ⟨g0, j, none⟩ = some (.string P[j]) := cl0 j _ (by simp [hlt])
          clear cl0 cl1
          go_wp2
          go_loopw [26] (fun k wr2 => ∃ m : Nat, j < m ∧ m ≤ P.length ∧ k = .int .i64 m ∧ (∀ b o, wr2.cell? ⟨b, o, none⟩ = wc.cell? ⟨b, o, none⟩) ∧ Below w.heap.size w wr2) (fun k _ => P.length - (intOf k).toNat)
          case atStart => exact ⟨j + 1, by omega, by omega, by go_num, hcc, hbr⟩
          case round =>
            clear hcc hbr
            obtain ⟨m, hm, hm2, rfl, hcc, hbr⟩ := hrel
            by_cases hlt2 : m < P.length
            · have c2 : wc.cell? ⟨g0, m, none⟩ = some (.string P[m]) := CL0.out m _ (by simp [hlt2])
              have hne := HPW.out j m P[j] P[m] hm (by simp) (by simp)
              go_wp2
              go_quiet ((go_at_call 23; exact Calls.quiet_of_same (canon_any _ _)))
              go_wp2
              go_roundw
              case rel => exact ⟨m + 1, by omega, by omega, by go_num, fun b o => hcc b o, below_drewN hbr _⟩
              case measure => simp [intOf]; omega
            · go_wp2
              go_roundw
              case rel => exact ⟨j + 1, by omega, by go_num, fun b o => hcc b o, hbr⟩
              case measure => simp [intOf]; omega
        · go_wp2
          go_ret
          exact ⟨rfl, hbr⟩
theorem ports_law (a0 : Bool) (a1 : ByteArray) (a2 : Int) (a3 : Bool) (a4 : ByteArray) (a5 : Int) (a6 : Int) (a7 : Bool) (a8 : ByteArray) (w1 : a1.size ≤ maxLen) (w4 : a4.size ≤ maxLen) (w8 : a8.size ≤ maxLen) (w : World) :
    Calls Trym.prog 6 #[.bool a0, .string a1, .int .i64 a2, .bool a3, .string a4, .int .i64 a5, .int .i64 a6, .bool a7, .string a8] w fun e w' => e = .returned (.bool true) ∧ Below w.heap.size w w' := by
  by_cases h : a1.size ≤ 65536 ∧ a4.size ≤ 65536 ∧ a8.size ≤ 65536
  · exact ports_short a0 a1 a2 a3 a4 a5 a6 a7 a8 w h.1 h.2.1 h.2.2
  · exact ports_long a0 a1 a2 a3 a4 a5 a6 a7 a8 w1 w4 w8 w h

end Go.Proofs.Qxb6001295aMods
