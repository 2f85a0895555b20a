import Derived.Test.Qxb6001295aModsModel
import Derived.Laws.IdiomStrings
namespace Go.Proofs.Qxb6001295aMods
open Go.RowKit
set_option linter.unusedVariables false

theorem bcells_append (a b : List UInt8) : bcells (a ++ b) = bcells a ++ bcells b := by simp [bcells]
theorem bcells_str (s : ByteArray) : Lib.strCells s = bcells s.data.toList := rfl

/-- 'string(buf)' of a slice of the call's own. -/
theorem own_string {w : World} {B n : Nat} {v : Value} {l : List UInt8} (h : w.ownsRow B 5 1 v n (bcells l)) : (convert 53 9 v).run Trym.prog w = .ok (.string ⟨l.toArray⟩) w := by
  have hl : l.length = n := by have := h.1; simpa [bcells] using this
  rcases h.2 with ⟨rfl, rfl⟩ | ⟨g, cap, cur, rfl, _⟩
  · have : l = [] := List.eq_nil_of_length_eq_zero hl
    subst this
    rw [run_convert_bytes_string w 53 9 5 none 0 0 Trym.underlying53 Trym.underlying5 Trym.underlying9]
    rfl
  · have hc := h.cells (g := g) rfl
    rw [← hl]
    exact run_convert_bytes_back w 53 9 5 ⟨g, 0, none⟩ cap l Trym.underlying53 Trym.underlying5 Trym.underlying9 (fun j hj => hc j _ (by simp [bcells, hj]))

theorem encL_snoc (L : List (Nat × ByteArray)) (k : Nat) (p : Nat) (t : ByteArray) (h : L.drop k = (p, t) :: L.drop (k + 1)) : encL (L.take (k + 1)) = encL (L.take k) ++ uv p ++ uv t.size ++ t.data.toList := by
  have hk : k < L.length := by
    rcases Nat.lt_or_ge k L.length with h' | h'
    · exact h'
    · rw [List.drop_eq_nil_of_le h'] at h; cases h
  have e : L[k] = (p, t) := by
    rw [List.drop_eq_getElem_cons hk] at h
    injection h
  rw [List.take_succ_eq_append_getElem hk, e]
  simp [encL, encP]

set_option maxRecDepth 100000 in
set_option maxHeartbeats 1600000 in
/-- zzEncodeDelta. -/
theorem encode_any (x0 : Option Addr) (l0 c0 : Nat) (x1 : Option Addr) (l1 c1 : Nat) (ks : List Nat) (vs : List ByteArray) (w : World) (h0 : KeyArg w x0 l0 ks) (h1 : StrArg w x1 l1 vs) (hl0 : l0 ≤ 65536) (hl1 : l1 ≤ 65536) (hv : ∀ s ∈ vs, s.size ≤ 1048576) :
    Calls Trym.prog 13 #[.slice x0 l0 c0, .slice x1 l1 c1] w fun e w' => e = .returned (.string ⟨(encL (ks.zip vs)).toArray⟩) ∧ Below w.heap.size w w' := by
  obtain ⟨i5, i5a, i5b, i5c, i5d⟩ := info_parts Trym.info5
  go_enter Trym.func13, Trym.ntmps13
  go_wp2_with (go_at_call 32; refine (min_any _ _ _).mono ?_; rintro e w' ⟨rfl, rfl⟩)
  obtain ⟨n, hn⟩ : ∃ n : Nat, n = min l0 l1 := ⟨_, rfl⟩
  have e1 : min (l0 : Int) (l1 : Int) = (n : Int) := by omega
  rw [e1]
  have hn0 : n ≤ l0 := by omega
  have hn1 : n ≤ l1 := by omega
  have hnl : (ks.zip vs).length = n := by rw [List.length_zip, h0.len, h1.len, hn]
  have HN : Hid ((ks.zip vs).length = n) := hnl
  clear e1 hn hnl
  go_wp2_with fail
  go_loopw [6, 7] (fun v j wr => ∃ (k m : Nat), k ≤ n ∧ j = .int .i64 k ∧ wr.ownsRow w.heap.size 5 1 v m (bcells (encL ((ks.zip vs).take k))) ∧ m ≤ k * 1048600 ∧ Below w.heap.size w wr) (fun _ j _ => n - (intOf j).toNat)
  case atStart => exact ⟨0, 0, Nat.zero_le _, rfl, World.ownsRow_nil _ _ _ _, by omega, Below.refl _ _⟩
  case round =>
    obtain ⟨k, m, hk, rfl, ho, hm, hb⟩ := hrel
    by_cases hlt : k < n
    · obtain ⟨b0, o0, rfl, hb0, hc0⟩ := h0.row.2.2.resolve_left (by omega)
      obtain ⟨b1, o1, rfl, hb1, hc1⟩ := h1.row.2.2.resolve_left (by omega)
      have hk0 : k < ks.length := by have := h0.len; omega
      have hk1 : k < vs.length := by have := h1.len; omega
      have hz := zip_at hk0 hk1
      obtain ⟨p, hp⟩ : ∃ p, p = ks[k] := ⟨_, rfl⟩
      obtain ⟨t, ht⟩ : ∃ t, t = vs[k] := ⟨_, rfl⟩
      rw [← hp, ← ht] at hz
      have hp64 : p < 18446744073709551616 := by rw [hp]; exact h0.fit _ (List.getElem_mem hk0)
      have htz : t.size ≤ 1048576 := by rw [ht]; exact hv _ (List.getElem_mem hk1)
      have ck : w.cell? ⟨b0, o0 + k, none⟩ = some (.int .u64 (p : Int)) := hc0 k _ (by simp [hk0, hp, keyV])
      have cv : w.cell? ⟨b1, o1 + k, none⟩ = some (.string t) := hc1 k _ (by simp [hk1, ht])
      have hlk : (k : Int) < (l0 : Int) := by omega
      have hlv : (k : Int) < (l1 : Int) := by omega
      have HZ : Hid (encL ((ks.zip vs).take (k + 1)) = encL ((ks.zip vs).take k) ++ uv p ++ uv t.size ++ t.data.toList) := encL_snoc _ _ _ _ hz
      clear hp ht hc0 hc1 h0 h1 hk0 hk1 hz hv
      have ckr : wr.cell? ⟨b0, o0 + k, none⟩ = some (.int .u64 (p : Int)) := (hb.cell (p := ⟨b0, o0 + k, none⟩) hb0).trans ck
      have u1 := uv_len p
      have u2 := uv_len t.size
      go_wp2_with fail
      refine (appendUv w.heap.size _ m _ p wr hp64 ho (by omega) hb.size).mono ?_
      rintro e w1 ⟨v1, rfl, ho1, hb1'⟩
      have hbt1 : Below w.heap.size w w1 := hb.trans hb1'
      have cv1 : w1.cell? ⟨b1, o1 + k, none⟩ = some (.string t) := (hbt1.cell (p := ⟨b1, o1 + k, none⟩) hb1).trans cv
      clear ho ckr hb1'
      go_wp2_with fail
      refine (appendUv w.heap.size _ _ _ t.size w1 (by omega) ho1 (by omega) hbt1.size).mono ?_
      rintro e w2 ⟨v2, rfl, ho2, hb2'⟩
      have hbt2 : Below w.heap.size w w2 := hbt1.trans hb2'
      have cv2 : w2.cell? ⟨b1, o1 + k, none⟩ = some (.string t) := (hbt2.cell (p := ⟨b1, o1 + k, none⟩) hb1).trans cv
      have hsz2 := hbt2.size
      clear ho1 cv1 hb2' hbt1
      go_wp2_with (first | (at_builtin; refine Lib.wpList_append_own_string _ rfl (.tmp 32) (.tmp 36) 53 9 rfl w.heap.size 5 i5 Trym.underlying53 Trym.underlying9 i5a i5b i5c i5d _ _ _ rfl ho2 t rfl (by unfold maxLen; omega) (by omega) hsz2 ?_) | go_in)
      intro v3 w3 ho3 hg3 _
      have hbt3 : Below w.heap.size w w3 := hbt2.grown hg3 hsz2 (fun j hj => (ho2.lt j hj).1)
      have ho4 : w3.ownsRow w.heap.size 5 1 v3 (m + (uv p).length + (uv t.size).length + t.size) (bcells (encL ((ks.zip vs).take (k + 1)))) := by
        rw [HZ.out, bcells_append, bcells_append, bcells_append, ← bcells_str]
        simpa using ho3
      clear ho2 ho3 hg3 hbt2 cv2
      go_wp2
      go_roundw
      case rel => exact ⟨k + 1, _, by omega, by go_num, ho4, by omega, hbt3⟩
      case measure => simp [intOf]; omega
    · have hk2 : (ks.zip vs).take k = ks.zip vs := List.take_of_length_le (by rw [HN.out]; omega)
      rw [hk2] at ho
      have hcv := own_string ho
      clear hk2
      go_wp2
      go_ret
      exact ⟨rfl, hb⟩

end Go.Proofs.Qxb6001295aMods
