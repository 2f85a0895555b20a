import Derived.Test.Qxb6001295aModsCloneKeys
namespace Go.Proofs.Qxb6001295aMods
open Go.RowKit
set_option linter.unusedVariables false

theorem zip_at {ks : List Nat} {vs : List ByteArray} {k : Nat} (h0 : k < ks.length) (h1 : k < vs.length) : (ks.zip vs).drop k = (ks[k], vs[k]) :: (ks.zip vs).drop (k + 1) := by
  rw [List.drop_eq_getElem_cons (by simp; omega), List.getElem_zip]

set_option maxRecDepth 100000 in
set_option maxHeartbeats 800000 in
/-- zzModelValue. -/
theorem model_any (x0 : Option Addr) (l0 c0 : Nat) (x1 : Option Addr) (l1 c1 : Nat) (i : Int) (ks : List Nat) (vs : List ByteArray) (w : World) (h0 : KeyArg w x0 l0 ks) (h1 : StrArg w x1 l1 vs) (hl0 : l0 ≤ 65536) (hl1 : l1 ≤ 65536) :
    Calls Trym.prog 15 #[.slice x0 l0 c0, .slice x1 l1 c1, .int .i64 i] w fun e w' => FindOut e (findV (ks.zip vs) i) ∧ w = w' := by
  go_enter Trym.func15, Trym.ntmps15
  go_wp2_with (go_at_call 32; refine (min_any _ _ _).mono ?_; rintro e w' ⟨rfl, rfl⟩)
  obtain ⟨n, hn⟩ : ∃ n : Nat, n = min l0 l1 := ⟨_, rfl⟩
  have e1 : min (l0 : Int) (l1 : Int) = (n : Int) := by omega
  rw [e1]
  have hn0 : n ≤ l0 := by omega
  have hn1 : n ≤ l1 := by omega
  have hnl : (ks.zip vs).length = n := by rw [List.length_zip, h0.len, h1.len, hn]
  have HN : Hid ((ks.zip vs).length = n) := hnl
  clear e1 hn hnl
  go_wp2_with fail
  go_loop [9] (fun j => ∃ k : Nat, k ≤ n ∧ j = .int .i64 k ∧ findV (ks.zip vs) i = findV ((ks.zip vs).drop k) i) (fun j => n - (intOf j).toNat)
  case atStart => exact ⟨0, Nat.zero_le _, rfl, rfl⟩
  case round =>
    obtain ⟨k, hk, rfl, hf⟩ := hrel
    have HF : Hid (findV (ks.zip vs) i = findV ((ks.zip vs).drop k) i) := hf
    clear hf
    by_cases hlt : k < n
    · obtain ⟨b0, o0, rfl, hb0, hc0⟩ := h0.row.2.2.resolve_left (by omega)
      obtain ⟨b1, o1, rfl, hb1, hc1⟩ := h1.row.2.2.resolve_left (by omega)
      have hk0 : k < ks.length := by have := h0.len; omega
      have hk1 : k < vs.length := by have := h1.len; omega
      have hz := zip_at hk0 hk1
      obtain ⟨p, hp⟩ : ∃ p, p = ks[k] := ⟨_, rfl⟩
      obtain ⟨t, ht⟩ : ∃ t, t = vs[k] := ⟨_, rfl⟩
      rw [← hp, ← ht] at hz
      have hp64 : p < 18446744073709551616 := by rw [hp]; exact h0.fit _ (List.getElem_mem hk0)
      have ck : w.cell? ⟨b0, o0 + k, none⟩ = some (.int .u64 (p : Int)) := hc0 k _ (by simp [hk0, hp, keyV])
      have cv : w.cell? ⟨b1, o1 + k, none⟩ = some (.string t) := hc1 k _ (by simp [hk1, ht])
      have hlk : (k : Int) < (l0 : Int) := by omega
      have hlv : (k : Int) < (l1 : Int) := by omega
      have HZ : Hid ((ks.zip vs).drop k = (p, t) :: (ks.zip vs).drop (k + 1)) := hz
      clear hp ht hc0 hc1 h0 h1 hk0 hk1 hz
      go_wp2
      · have hm : (wrap64 (p : Int) == i) = true := by assumption
        go_ret2
        refine ⟨?_, rfl⟩
        rw [HF.out, HZ.out, findV_hit hm]
        rfl
      · have hm : (wrap64 (p : Int) == i) = false := by assumption
        go_round
        case rel => exact ⟨k + 1, by omega, by go_num, by rw [HF.out, HZ.out, findV_miss hm]⟩
        case measure => simp [intOf]; omega
    · go_wp2
      go_ret2
      refine ⟨?_, rfl⟩
      rw [HF.out, List.drop_eq_nil_of_le (by rw [HN.out]; omega)]
      rfl

end Go.Proofs.Qxb6001295aMods
