import Derived.Test.Qxb6001295aModsEncode
namespace Go.Proofs.Qxb6001295aMods
open Go.RowKit
set_option linter.unusedVariables false

theorem encL_len (L : List (Nat × ByteArray)) (h : Fits L) : (encL L).length ≤ L.length * 1048600 := by
  induction L with
  | nil => simp [encL]
  | cons p L ih =>
    rw [encL_cons]
    have a := uv_len p.1
    have b := uv_len p.2.size
    have c := (h p (List.mem_cons_self ..)).2
    have d := ih (fun x hx => h x (List.mem_cons_of_mem _ hx))
    simp
    omega

theorem size_le_sumTo (ss : List ByteArray) : ∀ s ∈ ss, s.size ≤ sumTo ss ss.length := by
  intro s hs
  unfold sumTo
  rw [List.take_length]
  induction ss with
  | nil => cases hs
  | cons a l ih =>
    rcases List.mem_cons.1 hs with rfl | h
    · simp
    · have := ih h; simp; omega

theorem fits_zip {ks : List Nat} {vs : List ByteArray} (h0 : ∀ k ∈ ks, k < 18446744073709551616) (h1 : ∀ s ∈ vs, s.size ≤ 1048576) : Fits (ks.zip vs) := fun p hp => ⟨h0 _ (List.of_mem_zip hp).1, h1 _ (List.of_mem_zip hp).2⟩

/-- Some bool comes back. -/
def BoolOut (e : Ending) : Prop := ∃ b : Bool, e = .returned (.bool b)

set_option maxRecDepth 100000 in
set_option maxHeartbeats 800000 in
theorem bytes9_any (x0 : Option Addr) (l0 c0 : Nat) (x1 : Option Addr) (l1 c1 : Nat) (i : Int) (vs : List ByteArray) (w : World) (hl : l0 ≤ maxLen) (h1 : StrArg w x1 l1 vs) :
    Calls Trym.prog 9 #[.slice x0 l0 c0, .slice x1 l1 c1, .int .i64 i] w fun e w' => BoolOut e ∧ w = w' := by
  have m0 : l0 ≤ 9223372036854775807 := hl
  have m1 : l1 ≤ 9223372036854775807 := h1.row.2.1
  clear hl
  go_enter Trym.func9, Trym.ntmps9
  go_wp2
  any_goals (go_ret; exact ⟨⟨_, rfl⟩, rfl⟩)
  go_loop [7, 8] (fun t i => ∃ k : Nat, k ≤ l1 ∧ i = .int .i64 k ∧ ∃ n : Int, t = .int .i64 n ∧ 0 ≤ n ∧ n ≤ 1048576) (fun _ i => l1 - (intOf i).toNat)
  case atStart => exact ⟨0, Nat.zero_le _, rfl, _, rfl, by omega, by omega⟩
  case round =>
    obtain ⟨k, hk, rfl, n, rfl, hn, hm⟩ := hrel
    by_cases hlt : k < l1
    · obtain ⟨b, off, rfl, hb, hc⟩ := h1.row.2.2.resolve_left (by omega)
      have hks : k < vs.length := by have := h1.len; omega
      obtain ⟨s, hs⟩ : ∃ s, s = vs[k] := ⟨_, rfl⟩
      have hf : s.size ≤ 9223372036854775807 := by rw [hs]; exact h1.fit _ (List.getElem_mem hks)
      have hck : w.cell? ⟨b, off + k, none⟩ = some (.string s) := hc k _ (by simp [hks, hs])
      clear hs hc hks h1
      go_wp2
      · go_ret
        exact ⟨⟨_, rfl⟩, rfl⟩
      · go_ret
        exact ⟨⟨_, rfl⟩, rfl⟩
      · go_round
        case rel => exact ⟨k + 1, by omega, by go_num, n + s.size, rfl, by omega, by omega⟩
        case measure => simp [intOf]; omega
    · go_wp2
      go_ret
      exact ⟨⟨_, rfl⟩, rfl⟩

set_option maxRecDepth 100000 in
set_option maxHeartbeats 1600000 in
theorem delta_law (x0 : Option Addr) (l0 c0 : Nat) (x1 : Option Addr) (l1 c1 : Nat) (i : Int) (ks : List Nat) (vs : List ByteArray) (w : World) (h0 : KeyArg w x0 l0 ks) (h1 : StrArg w x1 l1 vs) (n0 : x0 = none → l0 = 0) (n1 : x1 = none → l1 = 0) :
    Calls Trym.prog 3 #[.slice x0 l0 c0, .slice x1 l1 c1, .int .i64 i] w fun e w' => e = .returned (.bool true) ∧ Below w.heap.size w w' := by
  have m0 : l0 ≤ 9223372036854775807 := h0.row.2.1
  have m1 : l1 ≤ 9223372036854775807 := h1.row.2.1
  go_enter Trym.func3, Trym.ntmps3
  go_wp2_with fail
  refine (bytes9_any x0 l0 c0 x1 l1 c1 i vs w h0.row.2.1 h1).mono ?_
  rintro e w' ⟨⟨b1, rfl⟩, rfl⟩
  cases b1
  · go_wp2
    go_ret
    exact ⟨rfl, Below.refl _ _⟩
  by_cases hl0 : l0 ≤ 65536
  rotate_left
  · go_wp2
    go_ret
    exact ⟨rfl, Below.refl _ _⟩
  by_cases hl1 : l1 ≤ 65536
  rotate_left
  · go_wp2
    go_ret
    exact ⟨rfl, Below.refl _ _⟩
  go_wp2_with fail
  refine (strBytes_any x1 l1 c1 vs w h1).mono ?_
  rintro e w' ⟨⟨nb, rfl, hnb⟩, rfl⟩
  by_cases hbig : 1048576 < 8 * (l0 : Int) + nb
  · have hnb0 : 0 ≤ nb := by omega
    have hnb1 : nb ≤ 1048577 := by omega
    clear hnb
    go_wp2
    go_ret
    exact ⟨rfl, Below.refl _ _⟩
  have hvs : ∀ s ∈ vs, s.size ≤ 1048576 := by
    intro s hs
    have a := size_le_sumTo vs s hs
    rw [h1.len] at a
    omega
  have hnb0 : 0 ≤ nb := by omega
  have hnb1 : nb ≤ 1048577 := by omega
  have HF : Hid (Fits (ks.zip vs)) := fits_zip h0.fit hvs
  have HV : Hid (∀ s ∈ vs, s.size ≤ 1048576) := hvs
  have HS : Hid ((encL (ks.zip vs)).length ≤ 1099511627776) := by
    have a := encL_len _ HF.out
    have b : (ks.zip vs).length ≤ 65536 := by rw [List.length_zip, h0.len, h1.len]; omega
    have c : (ks.zip vs).length * 1048600 ≤ 65536 * 1048600 := Nat.mul_le_mul_right _ b
    exact Nat.le_trans a (Nat.le_trans c (by decide))
  clear hvs hnb
  go_wp2_with fail
  refine (cloneKeys_any x0 l0 c0 ks w h0 hl0 n0).mono ?_
  rintro e w1 ⟨y0, d0, rfl, g0, t0, b0⟩
  have h1' := h1.kept b0
  clear h0 h1 t0
  go_wp2_with fail
  refine (clone_any x1 l1 c1 vs w1 h1' hl1 n1).mono ?_
  rintro e w2 ⟨y1, d1, rfl, g1, t1, b2⟩
  have g0' := g0.kept b2
  have tot : Below w.heap.size w w2 := b0.trans (b2.mono b0.size)
  clear h1' g0 b0 b2 t1
  go_wp2_with fail
  refine (encode_any y0 l0 d0 y1 l1 d1 ks vs w2 g0' g1 hl0 hl1 HV.out).mono ?_
  rintro e w3 ⟨rfl, b3⟩
  have g0 := g0'.kept b3
  have g2 := g1.kept b3
  have tot3 : Below w.heap.size w w3 := tot.trans (b3.mono tot.size)
  clear g0' g1 b3 tot
  go_wp2_with fail
  refine (zzValue_any _ i (ks.zip vs) w3 (by simp) HF.out (by show (encL (ks.zip vs)).toArray.size ≤ _; rw [List.size_toArray]; exact HS.out)).mono ?_
  rintro e w4 ⟨he, b4⟩
  unfold FindOut at he
  subst he
  have g0' := g0.kept b4
  have g1 := g2.kept b4
  have tot4 : Below w.heap.size w w4 := tot3.trans (b4.mono tot3.size)
  clear g0 g2 b4 tot3
  go_wp2_with fail
  refine (model_any y0 l0 d0 y1 l1 d1 i ks vs w4 g0' g1 hl0 hl1).mono ?_
  rintro e w' ⟨he, rfl⟩
  unfold FindOut at he
  subst he
  clear g0' g1
  go_wp2
  go_ret
  exact ⟨rfl, tot4⟩

end Go.Proofs.Qxb6001295aMods
