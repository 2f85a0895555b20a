import Derived.Test.Qxb6001295aModsPeerBytes30
import Derived.Test.Qxb6001295aModsZZPeer
import Derived.Test.Qxb6001295aModsLabels
import Derived.Test.Qxb6001295aModsSame
namespace Go.Proofs.Qxb6001295aMods
open Go.RowKit Go.Maps
set_option linter.unusedVariables false

set_option maxRecDepth 100000 in
set_option maxHeartbeats 4000000 in
theorem keeps_law (a0 a1 a2 : Bool) (x0 : Option Addr) (l0 c0 : Nat) (x1 : Option Addr) (l1 c1 : Nat) (x2 : Option Addr) (l2 c2 : Nat) (x3 : Option Addr) (l3 c3 : Nat) (a7 : Bool) (x4 : Option Addr) (l4 c4 : Nat) (x5 : Option Addr) (l5 c5 : Nat) (x6 : Option Addr) (l6 c6 : Nat) (x7 : Option Addr) (l7 c7 : Nat) (w : World) (ss0 : List ByteArray) (h0 : StrArg w x0 l0 ss0) (n0 : x0 = none → l0 = 0) (ss1 : List ByteArray) (h1 : StrArg w x1 l1 ss1) (n1 : x1 = none → l1 = 0) (ss2 : List ByteArray) (h2 : StrArg w x2 l2 ss2) (n2 : x2 = none → l2 = 0) (ss3 : List ByteArray) (h3 : StrArg w x3 l3 ss3) (n3 : x3 = none → l3 = 0) (ss4 : List ByteArray) (h4 : StrArg w x4 l4 ss4) (n4 : x4 = none → l4 = 0) (ss5 : List ByteArray) (h5 : StrArg w x5 l5 ss5) (n5 : x5 = none → l5 = 0) (ss6 : List ByteArray) (h6 : StrArg w x6 l6 ss6) (n6 : x6 = none → l6 = 0) (ss7 : List ByteArray) (h7 : StrArg w x7 l7 ss7) (n7 : x7 = none → l7 = 0) :
    Calls Trym.prog 8 #[.bool a0, .bool a1, .bool a2, .slice x0 l0 c0, .slice x1 l1 c1, .slice x2 l2 c2, .slice x3 l3 c3, .bool a7, .slice x4 l4 c4, .slice x5 l5 c5, .slice x6 l6 c6, .slice x7 l7 c7] w fun e w' => e = .returned (.bool true) ∧ Below w.heap.size w w' := by
  have qm : ∀ (w : World) (r : Option Nat), (binOp .eql 45 (.map r) (.map none)).run Trym.prog w = .ok (.bool r.isNone) w := fun w r => run_eql_map_nil w _ _ _ r Trym.underlying45
  go_enter Trym.func8, Trym.ntmps8
  go_wp2_with fail
  refine (bytes30_any a0 a1 a2 x0 l0 c0 x1 l1 c1 x2 l2 c2 x3 l3 c3 x4 l4 c4 x5 l5 c5 x6 l6 c6 x7 l7 c7 a7 w ss0 h0 ss1 h1 ss2 h2 ss3 h3 ss4 h4 ss5 h5 ss6 h6 ss7 h7).mono ?_
  rintro e w' ⟨⟨b1, rfl⟩, rfl⟩
  cases b1
  · go_wp2
    go_ret
    exact ⟨rfl, Below.refl _ _⟩
  go_wp2_with fail
  refine (tooLong_any x0 l0 c0 x1 l1 c1 x2 l2 c2 x3 l3 c3 x4 l4 c4 x5 l5 c5 x6 l6 c6 x7 l7 c7 w).mono ?_
  rintro e w' ⟨⟨b2, rfl, hS⟩, rfl⟩
  cases b2
  rotate_left
  · clear hS
    go_wp2
    go_ret
    exact ⟨rfl, Below.refl _ _⟩
  obtain ⟨hl0, hl1, hl2, hl3, hl4, hl5, hl6, hl7⟩ := hS rfl
  clear hS
  go_wp2_with fail
  refine (peerBytes_any x0 l0 c0 x1 l1 c1 x2 l2 c2 x3 l3 c3 x4 l4 c4 x5 l5 c5 x6 l6 c6 x7 l7 c7 w ss0 h0 ss1 h1 ss2 h2 ss3 h3 ss4 h4 ss5 h5 ss6 h6 ss7 h7).mono ?_
  rintro e w' ⟨⟨nb, rfl⟩, rfl⟩
  by_cases hnb : 1048576 < nb
  · go_wp2
    go_ret
    exact ⟨rfl, Below.refl _ _⟩
  cases hE : enforceB a0 a1 a2 l2 l3 a7
  · have HE : Hid (enforceB a0 a1 a2 l2 l3 a7 = false) := hE
    clear hE
    go_wp2_with fail
    refine (enforceable_any a0 a1 a2 x2 l2 c2 x3 l3 c3 a7 w).mono ?_
    rintro e w' ⟨rfl, rfl⟩
    rw [HE.out]
    go_wp2
    go_ret
    exact ⟨rfl, Below.refl _ _⟩
  have HE : Hid (enforceB a0 a1 a2 l2 l3 a7 = true) := hE
  clear hE
  go_wp2_with fail
  refine (enforceable_any a0 a1 a2 x2 l2 c2 x3 l3 c3 a7 w).mono ?_
  rintro e w' ⟨rfl, rfl⟩
  rw [HE.out]
  go_wp2_with fail
  refine (clone_any x0 l0 c0 ss0 w h0 hl0 n0).mono ?_
  rintro e w0 ⟨y0, d0, rfl, g0, t0, bb0⟩
  have h1_0 := h1.kept bb0
  have h2_0 := h2.kept bb0
  have h3_0 := h3.kept bb0
  have h4_0 := h4.kept bb0
  have h5_0 := h5.kept bb0
  have h6_0 := h6.kept bb0
  have h7_0 := h7.kept bb0
  have tot0 : Below w.heap.size w w0 := bb0
  clear bb0 h0 h1 h2 h3 h4 h5 h6 h7
  go_wp2_with fail
  refine (clone_any x1 l1 c1 ss1 w0 h1_0 hl1 n1).mono ?_
  rintro e w1 ⟨y1, d1, rfl, g1, t1, bb1⟩
  have h2_1 := h2_0.kept bb1
  have h3_1 := h3_0.kept bb1
  have h4_1 := h4_0.kept bb1
  have h5_1 := h5_0.kept bb1
  have h6_1 := h6_0.kept bb1
  have h7_1 := h7_0.kept bb1
  have g0_1 := g0.kept bb1
  have tot1 : Below w.heap.size w w1 := tot0.trans (bb1.mono tot0.size)
  clear bb1 h1_0 h2_0 h3_0 h4_0 h5_0 h6_0 h7_0 g0 tot0
  go_wp2_with fail
  refine (clone_any x2 l2 c2 ss2 w1 h2_1 hl2 n2).mono ?_
  rintro e w2 ⟨y2, d2, rfl, g2, t2, bb2⟩
  have h3_2 := h3_1.kept bb2
  have h4_2 := h4_1.kept bb2
  have h5_2 := h5_1.kept bb2
  have h6_2 := h6_1.kept bb2
  have h7_2 := h7_1.kept bb2
  have g0_2 := g0_1.kept bb2
  have g1_2 := g1.kept bb2
  have tot2 : Below w.heap.size w w2 := tot1.trans (bb2.mono tot1.size)
  clear bb2 h2_1 h3_1 h4_1 h5_1 h6_1 h7_1 g0_1 g1 tot1
  go_wp2_with fail
  refine (clone_any x3 l3 c3 ss3 w2 h3_2 hl3 n3).mono ?_
  rintro e w3 ⟨y3, d3, rfl, g3, t3, bb3⟩
  have h4_3 := h4_2.kept bb3
  have h5_3 := h5_2.kept bb3
  have h6_3 := h6_2.kept bb3
  have h7_3 := h7_2.kept bb3
  have g0_3 := g0_2.kept bb3
  have g1_3 := g1_2.kept bb3
  have g2_3 := g2.kept bb3
  have tot3 : Below w.heap.size w w3 := tot2.trans (bb3.mono tot2.size)
  clear bb3 h3_2 h4_2 h5_2 h6_2 h7_2 g0_2 g1_2 g2 tot2
  go_wp2_with fail
  refine (clone_any x4 l4 c4 ss4 w3 h4_3 hl4 n4).mono ?_
  rintro e w4 ⟨y4, d4, rfl, g4, t4, bb4⟩
  have h5_4 := h5_3.kept bb4
  have h6_4 := h6_3.kept bb4
  have h7_4 := h7_3.kept bb4
  have g0_4 := g0_3.kept bb4
  have g1_4 := g1_3.kept bb4
  have g2_4 := g2_3.kept bb4
  have g3_4 := g3.kept bb4
  have tot4 : Below w.heap.size w w4 := tot3.trans (bb4.mono tot3.size)
  clear bb4 h4_3 h5_3 h6_3 h7_3 g0_3 g1_3 g2_3 g3 tot3
  go_wp2_with fail
  refine (clone_any x5 l5 c5 ss5 w4 h5_4 hl5 n5).mono ?_
  rintro e w5 ⟨y5, d5, rfl, g5, t5, bb5⟩
  have h6_5 := h6_4.kept bb5
  have h7_5 := h7_4.kept bb5
  have g0_5 := g0_4.kept bb5
  have g1_5 := g1_4.kept bb5
  have g2_5 := g2_4.kept bb5
  have g3_5 := g3_4.kept bb5
  have g4_5 := g4.kept bb5
  have tot5 : Below w.heap.size w w5 := tot4.trans (bb5.mono tot4.size)
  clear bb5 h5_4 h6_4 h7_4 g0_4 g1_4 g2_4 g3_4 g4 tot4
  go_wp2_with fail
  refine (clone_any x6 l6 c6 ss6 w5 h6_5 hl6 n6).mono ?_
  rintro e w6 ⟨y6, d6, rfl, g6, t6, bb6⟩
  have h7_6 := h7_5.kept bb6
  have g0_6 := g0_5.kept bb6
  have g1_6 := g1_5.kept bb6
  have g2_6 := g2_5.kept bb6
  have g3_6 := g3_5.kept bb6
  have g4_6 := g4_5.kept bb6
  have g5_6 := g5.kept bb6
  have tot6 : Below w.heap.size w w6 := tot5.trans (bb6.mono tot5.size)
  clear bb6 h6_5 h7_5 g0_5 g1_5 g2_5 g3_5 g4_5 g5 tot5
  go_wp2_with fail
  refine (clone_any x7 l7 c7 ss7 w6 h7_6 hl7 n7).mono ?_
  rintro e w7 ⟨y7, d7, rfl, g7, t7, bb7⟩
  have g0_7 := g0_6.kept bb7
  have g1_7 := g1_6.kept bb7
  have g2_7 := g2_6.kept bb7
  have g3_7 := g3_6.kept bb7
  have g4_7 := g4_6.kept bb7
  have g5_7 := g5_6.kept bb7
  have g6_7 := g6.kept bb7
  have tot7 : Below w.heap.size w w7 := tot6.trans (bb7.mono tot6.size)
  clear bb7 h7_6 g0_6 g1_6 g2_6 g3_6 g4_6 g5_6 g6 tot6
  go_wp2_with fail
  refine (labels_any y0 l0 d0 y1 l1 d1 ss0 ss1 w7 g0_7 g1_7 hl0 hl1).mono ?_
  rintro e u1 ⟨⟨m1, rfl, tn1, ma1⟩, lb1⟩
  have g0_L0 := g0_7.kept lb1
  have g1_L0 := g1_7.kept lb1
  have g2_L0 := g2_7.kept lb1
  have g3_L0 := g3_7.kept lb1
  have g4_L0 := g4_7.kept lb1
  have g5_L0 := g5_7.kept lb1
  have g6_L0 := g6_7.kept lb1
  have g7_L0 := g7.kept lb1
  have totL0 : Below w.heap.size w u1 := tot7.trans (lb1.mono tot7.size)
  clear lb1 tn1 tot7 g0_7 g1_7 g2_7 g3_7 g4_7 g5_7 g6_7 g7
  go_wp2_with fail
  refine (labels_any y4 l4 d4 y5 l5 d5 ss4 ss5 u1 g4_L0 g5_L0 hl4 hl5).mono ?_
  rintro e u2 ⟨⟨m2, rfl, tn2, ma2⟩, lb2⟩
  have g0_L1 := g0_L0.kept lb2
  have g1_L1 := g1_L0.kept lb2
  have g2_L1 := g2_L0.kept lb2
  have g3_L1 := g3_L0.kept lb2
  have g4_L1 := g4_L0.kept lb2
  have g5_L1 := g5_L0.kept lb2
  have g6_L1 := g6_L0.kept lb2
  have g7_L1 := g7_L0.kept lb2
  have ma1_L1 := ma1.kept lb2
  have totL1 : Below w.heap.size w u2 := totL0.trans (lb2.mono totL0.size)
  clear lb2 tn2 totL0 g0_L0 g1_L0 g2_L0 g3_L0 g4_L0 g5_L0 g6_L0 g7_L0 ma1
  go_wp2_with fail
  refine (labels_any y6 l6 d6 y7 l7 d7 ss6 ss7 u2 g6_L1 g7_L1 hl6 hl7).mono ?_
  rintro e u3 ⟨⟨m3, rfl, tn3, ma3⟩, lb3⟩
  have g0_L2 := g0_L1.kept lb3
  have g1_L2 := g1_L1.kept lb3
  have g2_L2 := g2_L1.kept lb3
  have g3_L2 := g3_L1.kept lb3
  have g4_L2 := g4_L1.kept lb3
  have g5_L2 := g5_L1.kept lb3
  have g6_L2 := g6_L1.kept lb3
  have g7_L2 := g7_L1.kept lb3
  have ma1_L2 := ma1_L1.kept lb3
  have ma2_L2 := ma2.kept lb3
  have totL2 : Below w.heap.size w u3 := totL1.trans (lb3.mono totL1.size)
  clear lb3 tn3 totL1 g0_L1 g1_L1 g2_L1 g3_L1 g4_L1 g5_L1 g6_L1 g7_L1 ma1_L1 ma2
  go_wp2_with fail
  refine (zzAsPeer_any a0 a1 a2 m1 y2 l2 d2 y3 l3 d3 a7 m2 m3 u3).mono ?_
  rintro e v1 ⟨hout, pb⟩
  have hend : Below w.heap.size w v1 := totL2.trans (pb.mono totL2.size)
  have e0 := g0_L2.kept pb
  have e4 := g4_L2.kept pb
  have e6 := g6_L2.kept pb
  have f1 := ma1_L2.kept pb
  have f2 := ma2_L2.kept pb
  have f3 := ma3.kept pb
  clear pb totL2 g0_L2 g1_L2 g2_L2 g3_L2 g4_L2 g5_L2 g6_L2 g7_L2 ma1_L2 ma2_L2 ma3 n0 t0 n1 t1 n2 t2 n3 t3 n4 t4 n5 t5 n6 t6 n7 t7
  rcases hout with ⟨hen, r, rfl, hr⟩ | ⟨hen, rfl, rfl⟩ | ⟨hen, rfl, rfl⟩
  · rw [HE.out] at hen
    cases hen
  · clear hen
    go_wp2_with fail
    refine (same_any m1 y0 l0 d0 ss0 v1 f1 e0 hl0).mono ?_
    rintro e w' ⟨rfl, rfl⟩
    go_wp2
    go_ret
    exact ⟨rfl, hend⟩
  · clear hen
    go_wp2_with fail
    refine (same_any m2 y4 l4 d4 ss4 v1 f2 e4 hl4).mono ?_
    rintro e w' ⟨rfl, rfl⟩
    go_wp2_with fail
    refine (same_any m3 y6 l6 d6 ss6 v1 f3 e6 hl6).mono ?_
    rintro e w' ⟨rfl, rfl⟩
    go_wp2
    go_ret
    exact ⟨rfl, hend⟩

end Go.Proofs.Qxb6001295aMods
