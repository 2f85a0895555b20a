import Derived.Test.Qxb6001295aModsUvarWalk
import Derived.WalkSmall
namespace Go.Proofs.Qxb6001295aMods
open Go.RowKit
set_option linter.unusedVariables false

theorem byte_at {s : ByteArray} {k : Nat} {b : UInt8} {t : List UInt8} (h : s.data.toList.drop k = b :: t) : ∃ hk : k < s.size, s[k]'hk = b := by
  have hk : k < s.data.toList.length := by
    rcases Nat.lt_or_ge k s.data.toList.length with h' | h'
    · exact h'
    · rw [List.drop_eq_nil_of_le h'] at h; cases h
  rw [List.drop_eq_getElem_cons hk] at h
  injection h with h1 h2
  exact ⟨by simpa using hk, by rw [← h1]; rfl⟩

theorem drop_succ_of {l : List UInt8} {k : Nat} {b : UInt8} {t : List UInt8} (h : l.drop k = b :: t) : l.drop (k + 1) = t := by
  rw [← List.drop_drop, h]; rfl

theorem extract_list (s : ByteArray) (k : Nat) : (s.extract k s.size).data.toList = s.data.toList.drop k := by
  simp only [ByteArray.data_extract, Array.toList_extract, List.extract_eq_take_drop]
  exact List.take_of_length_le (by simp)

/-- A number and a string come back. -/
def CutOut (e : Ending) (x : Nat) (rest : List UInt8) : Prop := ∃ r : ByteArray, e = .returned (.tuple #[.int .u64 x, .string r]) ∧ r.data.toList = rest

set_option maxRecDepth 100000 in
set_option maxHeartbeats 800000 in
theorem cut_small (s : ByteArray) (x : Nat) (rest : List UInt8) (w : World) (hx : x < 128) (hs : s.data.toList = uv x ++ rest) (hz : s.size ≤ 1099511627776) :
    Calls Trym.prog 37 #[.string s] w fun e w' => CutOut e x rest ∧ Below w.heap.size w w' := by
  rw [uv, uvF_last hx] at hs
  have hd : s.data.toList.drop 0 = UInt8.ofNat x :: rest := by simpa using hs
  obtain ⟨h0, hb⟩ := byte_at hd
  have hc : (s[0]'h0).toNat = x := by rw [hb, UInt8.toNat_ofNat']; omega
  have hr := (extract_list s 1).trans (drop_succ_of hd)
  have h0' : (0 : Int) < (s.size : Int) := by omega
  have h1' : (1 : Int) ≤ (s.size : Int) := by omega
  have HR : Hid ((s.extract 1 s.size).data.toList = rest) := hr
  clear hb hd hs hr
  go_enter Trym.func37, Trym.ntmps37
  go_wp2
  go_quiet (fail)
  go_wp2
  go_ret2
  exact ⟨⟨_, rfl, HR.out⟩, below_drewN (Below.refl _ _) _⟩

set_option maxRecDepth 100000 in
set_option maxHeartbeats 800000 in
theorem cut_large (s : ByteArray) (x : Nat) (rest : List UInt8) (w : World) (hx : 128 ≤ x) (hx2 : x < 18446744073709551616) (hs : s.data.toList = uv x ++ rest) (hz : s.size ≤ 1099511627776) :
    Calls Trym.prog 37 #[.string s] w fun e w' => CutOut e x rest ∧ Below w.heap.size w w' := by
  have hd : s.data.toList.drop 0 = UInt8.ofNat (x % 128 + 128) :: (uvF 8 (x / 128) ++ rest) := by rw [List.drop_zero, hs, uv, uvF_more hx]; rfl
  obtain ⟨h0, hb⟩ := byte_at hd
  obtain ⟨c0, hc0⟩ : ∃ c0, c0 = x % 128 + 128 := ⟨_, rfl⟩
  have hc : (s[0]'h0).toNat = c0 := by rw [hb, UInt8.toNat_ofNat', hc0]; omega
  have hcl : 128 ≤ c0 := by omega
  have HS : Hid (s.data.toList = uv x ++ rest) := hs
  clear hb hd hs hc0
  go_enter Trym.func37, Trym.ntmps37
  go_wp2
  go_loop [2, 4] (fun n i => ∃ k t : Nat, k ≤ 9 ∧ i = .int .i64 k ∧ n = .int .u64 t ∧ t = x % 128 ^ k ∧ s.data.toList.drop k = uvF (9 - k) (x / 128 ^ k) ++ rest) (fun _ i => 10 - (intOf i).toNat)
  case atStart => exact ⟨0, 0, by omega, rfl, rfl, by simp [Nat.mod_one], by simpa [uv] using HS.out⟩
  case round =>
    obtain ⟨k, t, hk9, rfl, rfl, ht, hd⟩ := hrel
    clear hc hcl
    by_cases h : 128 ≤ x / 128 ^ k
    · have hroom := room hk9 (div_room x k hx2) h
      rw [show 9 - k = (9 - (k + 1)) + 1 by omega, uvF_more h, List.cons_append] at hd
      obtain ⟨hk, hb⟩ := byte_at hd
      have hd2 := drop_succ_of hd
      obtain ⟨c, hc⟩ : ∃ c, c = x / 128 ^ k % 128 + 128 := ⟨_, rfl⟩
      have hck : (s[k]'hk).toNat = c := by rw [hb, UInt8.toNat_ofNat', hc]; omega
      have hc1 : 128 ≤ c := by omega
      have hc2 : c < 256 := by omega
      have hA := and127_u8 c hc2
      obtain ⟨q, hq⟩ : ∃ q, q = x / 128 ^ k % 128 := ⟨_, rfl⟩
      rw [show c % 128 = q by omega] at hA
      have hq8 : q < 128 := by omega
      have hsum : q * 128 ^ k + t = x % 128 ^ (k + 1) := by rw [mod_next, ht, hq]
      have hlt : x % 128 ^ (k + 1) ≤ x := Nat.mod_le _ _
      have hO := or_shift t q k (by rw [ht]; exact Nat.mod_lt _ (Nat.pow_pos (by omega))) (by omega)
      obtain ⟨t2, ht2⟩ : ∃ t2, t2 = x % 128 ^ (k + 1) := ⟨_, rfl⟩
      rw [hsum, ← ht2] at hO
      have hks : (k : Int) < (s.size : Int) := by omega
      have HT : Hid (t2 = x % 128 ^ (k + 1)) := ht2
      have HD : Hid (s.data.toList.drop (k + 1) = uvF (9 - (k + 1)) (x / 128 ^ (k + 1)) ++ rest) := by rw [div_next]; exact hd2
      clear hd hd2 hb hc hq hsum hlt ht2 ht h
      go_wp2
      go_round
      case rel => exact ⟨k + 1, t2, by omega, by go_num, rfl, HT.out, HD.out⟩
      case measure => simp [intOf]; omega
    · rw [uvF_last (by omega)] at hd
      obtain ⟨hk, hb⟩ := byte_at hd
      have hd2 := drop_succ_of hd
      obtain ⟨c, hc⟩ : ∃ c, c = x / 128 ^ k := ⟨_, rfl⟩
      have hc1 : c < 128 := by omega
      have hck : (s[k]'hk).toNat = c := by rw [hb, UInt8.toNat_ofNat', ← hc]; omega
      have hw : c * 128 ^ k + t = x := by rw [hc, ht]; exact whole x k
      have hO := or_shift t c k (by rw [ht]; exact Nat.mod_lt _ (Nat.pow_pos (by omega))) (by omega)
      rw [hw] at hO
      have hks : (k : Int) < (s.size : Int) := by omega
      have hks1 : (k : Int) + 1 ≤ (s.size : Int) := by omega
      have hr := (extract_list s (k + 1)).trans hd2
      have HR : Hid ((s.extract (k + 1) s.size).data.toList = rest) := hr
      clear hd hd2 hb hc hw ht h hr
      go_wp2
      go_quiet (fail)
      go_wp2
      go_ret2
      exact ⟨⟨_, rfl, HR.out⟩, below_drewN (Below.refl _ _) _⟩

theorem cut_any (s : ByteArray) (x : Nat) (rest : List UInt8) (w : World) (hx2 : x < 18446744073709551616) (hs : s.data.toList = uv x ++ rest) (hz : s.size ≤ 1099511627776) :
    Calls Trym.prog 37 #[.string s] w fun e w' => CutOut e x rest ∧ Below w.heap.size w w' := by
  by_cases h : x < 128
  · exact cut_small s x rest w h hs hz
  · exact cut_large s x rest w (by omega) hx2 hs hz

end Go.Proofs.Qxb6001295aMods
