import Derived.Test.Qxb6001295aModsStrs
namespace Go.Proofs.Qxb6001295aMods
open Go.RowKit
set_option linter.unusedVariables false

/-- Some bool comes back; in 'Says': 'no' says S. (Names of their own: the walk does not look into them.) -/
def SomeBool (e : Ending) : Prop := ∃ b : Bool, e = .returned (.bool b)
def Says (e : Ending) (S : Prop) : Prop := ∃ b : Bool, e = .returned (.bool b) ∧ (b = false → S)

set_option maxRecDepth 100000 in
set_option maxHeartbeats 800000 in
/-- zzPeerTooLong: its answer 'no' says that every length is within the limit. -/
theorem tooLong_any (x0 : Option Addr) (l0 c0 : Nat) (x1 : Option Addr) (l1 c1 : Nat) (x2 : Option Addr) (l2 c2 : Nat) (x3 : Option Addr) (l3 c3 : Nat) (x4 : Option Addr) (l4 c4 : Nat) (x5 : Option Addr) (l5 c5 : Nat) (x6 : Option Addr) (l6 c6 : Nat) (x7 : Option Addr) (l7 c7 : Nat) (w : World) :
    Calls Trym.prog 25 #[.slice x0 l0 c0, .slice x1 l1 c1, .slice x2 l2 c2, .slice x3 l3 c3, .slice x4 l4 c4, .slice x5 l5 c5, .slice x6 l6 c6, .slice x7 l7 c7] w fun e w' => Says e (l0 ≤ 65536 ∧ l1 ≤ 65536 ∧ l2 ≤ 65536 ∧ l3 ≤ 65536 ∧ l4 ≤ 65536 ∧ l5 ≤ 65536 ∧ l6 ≤ 65536 ∧ l7 ≤ 65536) ∧ w = w' := by
  go_enter Trym.func25, Trym.ntmps25
  go_wp2
  all_goals
    go_ret
    exact ⟨⟨_, rfl, fun h => by simp at h; try omega⟩, rfl⟩

set_option maxRecDepth 100000 in
set_option maxHeartbeats 800000 in
/-- zzPeerBytes: some number; nothing is written. -/
theorem peerBytes_any (x0 : Option Addr) (l0 c0 : Nat) (x1 : Option Addr) (l1 c1 : Nat) (x2 : Option Addr) (l2 c2 : Nat) (x3 : Option Addr) (l3 c3 : Nat) (x4 : Option Addr) (l4 c4 : Nat) (x5 : Option Addr) (l5 c5 : Nat) (x6 : Option Addr) (l6 c6 : Nat) (x7 : Option Addr) (l7 c7 : Nat) (w : World) (ss0 : List ByteArray) (h0 : StrArg w x0 l0 ss0) (ss1 : List ByteArray) (h1 : StrArg w x1 l1 ss1) (ss2 : List ByteArray) (h2 : StrArg w x2 l2 ss2) (ss3 : List ByteArray) (h3 : StrArg w x3 l3 ss3) (ss4 : List ByteArray) (h4 : StrArg w x4 l4 ss4) (ss5 : List ByteArray) (h5 : StrArg w x5 l5 ss5) (ss6 : List ByteArray) (h6 : StrArg w x6 l6 ss6) (ss7 : List ByteArray) (h7 : StrArg w x7 l7 ss7) :
    Calls Trym.prog 26 #[.slice x0 l0 c0, .slice x1 l1 c1, .slice x2 l2 c2, .slice x3 l3 c3, .slice x4 l4 c4, .slice x5 l5 c5, .slice x6 l6 c6, .slice x7 l7 c7] w fun e w' => (∃ n : Int, e = .returned (.int .i64 n)) ∧ w = w' := by
  go_enter Trym.func26, Trym.ntmps26
  go_wp2_with fail
  refine (strBytes_any x0 l0 c0 ss0 w h0).mono ?_
  rintro e w' ⟨⟨n0, rfl, b0⟩, rfl⟩
  clear b0
  go_wp2_with fail
  refine (strBytes_any x1 l1 c1 ss1 w h1).mono ?_
  rintro e w' ⟨⟨n1, rfl, b1⟩, rfl⟩
  clear b1
  go_wp2_with fail
  refine (strBytes_any x2 l2 c2 ss2 w h2).mono ?_
  rintro e w' ⟨⟨n2, rfl, b2⟩, rfl⟩
  clear b2
  go_wp2_with fail
  refine (strBytes_any x3 l3 c3 ss3 w h3).mono ?_
  rintro e w' ⟨⟨n3, rfl, b3⟩, rfl⟩
  clear b3
  go_wp2_with fail
  refine (strBytes_any x4 l4 c4 ss4 w h4).mono ?_
  rintro e w' ⟨⟨n4, rfl, b4⟩, rfl⟩
  clear b4
  go_wp2_with fail
  refine (strBytes_any x5 l5 c5 ss5 w h5).mono ?_
  rintro e w' ⟨⟨n5, rfl, b5⟩, rfl⟩
  clear b5
  go_wp2_with fail
  refine (strBytes_any x6 l6 c6 ss6 w h6).mono ?_
  rintro e w' ⟨⟨n6, rfl, b6⟩, rfl⟩
  clear b6
  go_wp2_with fail
  refine (strBytes_any x7 l7 c7 ss7 w h7).mono ?_
  rintro e w' ⟨⟨n7, rfl, b7⟩, rfl⟩
  clear b7
  go_wp2
  go_ret
  exact ⟨⟨_, rfl⟩, rfl⟩

def enforceB (a0 a1 a2 : Bool) (l5 l6 : Nat) (a7 : Bool) : Bool :=
  if l5 ≠ 0 ∨ l6 ≠ 0 then false else if a0 then a2 else (a1 && a7)

set_option maxHeartbeats 400000 in
theorem enforceable_any (a0 a1 a2 : Bool) (x5 : Option Addr) (l5 c5 : Nat) (x6 : Option Addr) (l6 c6 : Nat) (a7 : Bool) (w : World) :
    Calls Trym.prog 29 #[.bool a0, .bool a1, .bool a2, .slice x5 l5 c5, .slice x6 l6 c6, .bool a7] w fun e w' => e = .returned (.bool (enforceB a0 a1 a2 l5 l6 a7)) ∧ w = w' := by
  by_cases h5 : l5 = 0
  · subst h5
    by_cases h6 : l6 = 0
    · subst h6
      cases a0
      · cases a1
        · go_enter Trym.func29, Trym.ntmps29
          go_wp2
          go_ret
          exact ⟨by simp [enforceB], rfl⟩
        · go_enter Trym.func29, Trym.ntmps29
          go_wp2
          go_ret
          exact ⟨by simp [enforceB], rfl⟩
      · go_enter Trym.func29, Trym.ntmps29
        go_wp2
        go_ret
        exact ⟨by simp [enforceB], rfl⟩
    · have hn : ((l6 : Int) != 0) = true := by simp [h6]
      have he : enforceB a0 a1 a2 0 l6 a7 = false := by simp [enforceB, h6]
      rw [he]
      go_enter Trym.func29, Trym.ntmps29
      go_wp2
      go_ret
      exact ⟨rfl, rfl⟩
  · have hn : ((l5 : Int) != 0) = true := by simp [h5]
    have he : enforceB a0 a1 a2 l5 l6 a7 = false := by simp [enforceB, h5]
    rw [he]
    go_enter Trym.func29, Trym.ntmps29
    go_wp2
    go_ret
    exact ⟨rfl, rfl⟩

end Go.Proofs.Qxb6001295aMods
