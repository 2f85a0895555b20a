import Derived.Test.Qxb6001295aModsProg
import Derived.Test.Qxb6001295aModsUvar
import Derived.ProofKit
import Derived.WalkSpells
import Derived.WalkLawsBesides
import Derived.RegionTactic
import Derived.BigQuiet
import Derived.Deep.QuietTactic
import Derived.Lib.AppendStr
namespace Go.Proofs.Qxb6001295aMods
open Go.RowKit
set_option linter.unusedVariables false

/-- Bytes as cells. -/
def bcells (l : List UInt8) : List Value := l.map fun b => Value.int .u8 b.toNat
theorem bcells_snoc (l : List UInt8) (b : Nat) (h : b < 256) : bcells l ++ [.int .u8 b] = bcells (l ++ [UInt8.ofNat b]) := by
  simp only [bcells, List.map_append, List.map_cons, List.map_nil, List.append_cancel_left_eq, List.cons.injEq, and_true]
  rw [UInt8.toNat_ofNat', Nat.mod_eq_of_lt h]

theorem Trym.info5 : (Trym.prog.info? 5).map (fun i => (i.zero, i.size, i.bytes)) = some (some (.int .u8 0), 1, 1) := by kernel_rfl

set_option maxRecDepth 100000 in
set_option maxHeartbeats 800000 in
/-- zzAppendUvarint: onto a slice of the call's own, the uvarint of x. -/
theorem appendUv (B : Nat) (v : Value) (n : Nat) (xs : List Value) (x : Nat) (w : World) (hx : x < 18446744073709551616) (hown : w.ownsRow B 5 1 v n xs) (hn : n ≤ 1099511627776) (hB : B ≤ w.heap.size) :
    Calls Trym.prog 33 #[v, .int .u64 x] w fun e w' => ∃ v', e = .returned v' ∧ w'.ownsRow B 5 1 v' (n + (uv x).length) (xs ++ bcells (uv x)) ∧ Below B w w' := by
  obtain ⟨i5, i5a, i5b, i5c, i5d⟩ := info_parts Trym.info5
  go_enter Trym.func33, Trym.ntmps33
  go_wp2_with fail
  go_loopw [0, 1] (fun u t wr => ∃ (m r : Nat) (pre : List UInt8), m ≤ 9 ∧ t = .int .u64 r ∧ r * 128 ^ m < 18446744073709551616 ∧ pre.length = m ∧ uv x = pre ++ uvF (9 - m) r ∧ wr.ownsRow B 5 1 u (n + m) (xs ++ bcells pre) ∧ Below B w wr ∧ B ≤ wr.heap.size) (fun _ t _ => (intOf t).toNat)
  case atStart => exact ⟨0, x, [], by omega, rfl, by simpa using hx, rfl, rfl, by simpa [bcells] using hown, Below.refl _ _, hB⟩
  case round =>
    obtain ⟨m, r, pre, hm, rfl, hr, hpl, huv, ho, hb, hsz⟩ := hrel
    have hr64 := lt_of_room hr
    have HR : Hid (r * 128 ^ m < 18446744073709551616) := hr
    have HU : Hid (uv x = pre ++ uvF (9 - m) r) := huv
    have HP : Hid (pre.length = m) := hpl
    clear hr huv hpl hown
    by_cases h : 128 ≤ r
    · have hA := and127_u64 r hr64
      obtain ⟨q, hq⟩ : ∃ q, q = r % 128 := ⟨_, rfl⟩
      rw [← hq] at hA
      have hq8 : q < 128 := by omega
      have hq2 : (q : Int) % 256 = (q : Int) := by omega
      have hO := or128_u8 q hq8
      obtain ⟨b, hbq⟩ : ∃ b, b = q + 128 := ⟨_, rfl⟩
      rw [← hbq] at hO
      have hb2 : b < 256 := by omega
      have HB : Hid (b = r % 128 + 128) := by rw [hbq, hq]; rfl
      clear hq hbq
      go_wp2_with (first | (at_builtin; refine wpList_append_own _ rfl (.tmp 7) (.tmp 12) 53 rfl B 5 i5 _ 1 1 Trym.underlying53 i5a i5b i5c i5d rfl (by decide) _ _ _ rfl (ho.alloc _) ⟨wr.heap.size, 0, none⟩ 1 1 [.int .u8 b] rfl rfl (cell_one_new _ _ _) (by intro u hu; simp at hu; subst hu; rfl) (by unfold maxLen; omega) (by omega) (by simp; omega) ?_) | go_in)
      intro v' w1 ho' hg _
      have hb1 : Below B w w1 := (hb.alloc hsz _).grown hg (by simp; omega) (fun k hk => (ho.lt k hk).1)
      have hsz1 : B ≤ w1.heap.size := by have := hg.size; simp at this; omega
      clear hg ho hb hsz
      go_wp2
      go_roundw
      case rel =>
        have hm8 := room hm HR.out h
        exact ⟨m + 1, r / 128, pre ++ [UInt8.ofNat b], by omega, by go_num, next_lt HR.out, by simp [HP.out], by rw [HU.out, show 9 - m = (9 - (m + 1)) + 1 by omega, uvF_more h, HB.out]; simp, by rw [← bcells_snoc _ _ hb2]; exact ho', hb1, hsz1⟩
      case measure => simp [intOf]; omega
    · have hr2 : (r : Int) % 256 = (r : Int) := by omega
      go_wp2_with (first | (at_builtin; refine wpList_append_own _ rfl (.tmp 16) (.tmp 19) 53 rfl B 5 i5 _ 1 1 Trym.underlying53 i5a i5b i5c i5d rfl (by decide) _ _ _ rfl (ho.alloc _) ⟨wr.heap.size, 0, none⟩ 1 1 [.int .u8 r] rfl rfl (cell_one_new _ _ _) (by intro u hu; simp at hu; subst hu; rfl) (by unfold maxLen; omega) (by omega) (by simp; omega) ?_) | go_in)
      intro v' w1 ho' hg _
      have hb1 : Below B w w1 := (hb.alloc hsz _).grown hg (by simp; omega) (fun k hk => (ho.lt k hk).1)
      clear hg ho hb hsz
      go_wp2
      go_ret
      refine ⟨_, rfl, ?_, hb1⟩
      have e := HU.out
      rw [uvF_last (by omega)] at e
      rw [e, ← bcells_snoc _ _ (by omega), List.length_append, HP.out]
      exact ho'

end Go.Proofs.Qxb6001295aMods
