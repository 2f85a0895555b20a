import Derived.Test.Qxb6001295aModsRows
import Derived.WalkKit
import Derived.ProofKit
import Derived.WalkSpells
import Derived.RegionTactic
import Derived.ChangeAlike
import Derived.Deep.QuietTactic
import Derived.BigQuiet
import Derived.Maps.AppendAt
import Derived.Test.Qxb6001295aModsPortRows
namespace Go.Proofs.Qxb6001295aMods
open Go.RowKit
set_option linter.unusedVariables false


set_option maxHeartbeats 400000 in
theorem canon_any (p : ByteArray) (w : World) :
    Calls Trym.prog 23 #[.string p] w fun e w' => e = .returned (.string (canon p)) ∧ w' = w := by
  cases h : p.toList.isEmpty
  · have hc : canon p = p := by rw [canon, if_neg (by intro e; simp [e] at h)]
    go_enter Trym.func23, Trym.ntmps23
    go_wp2
    go_ret
    exact ⟨by rw [hc]; rfl, rfl⟩
  · have hc : canon p = ⟨#[84, 67, 80]⟩ := by rw [canon, if_pos (by simpa using h)]
    go_enter Trym.func23, Trym.ntmps23
    go_wp2
    go_ret
    exact ⟨by rw [hc]; rfl, rfl⟩


set_option maxHeartbeats 400000 in
theorem asPorts_num (b : Nat) (s : ByteArray) (n : Int) (p1 p2 : Option Addr) (w : World) (hb : b < w.heap.size) (h0 : w.cell? ⟨b, 0, none⟩ = some (.string s)) (h1 : w.cell? ⟨b, 1, none⟩ = some (.int .i64 n)) :
    Calls Trym.prog 35 #[.agg #[.pointer (some ⟨b, 0, none⟩), .pointer p1, .pointer p2]] w fun e w' => ∃ v L, e = .returned v ∧ L.map (·.1) = [s] ∧ PortsAt w.heap.size w' v L ∧ Below w.heap.size w w' := by
  go_enter Trym.func35, Trym.ntmps35
  go_wp2
  go_region
  go_wp2
  go_ret
  exact ⟨_, [(s, w.heap.size + 1, 0)], rfl, rfl, portsAt_one w.heap.size (w.heap.size + 1) (w.heap.size + 1 + 1) _ s n 0 _ (by omega) (by show (World.alloc _ _).heap[_]? = _; rw [Below.heap_alloc _ _ _ (by simp)]; exact heap_alloc_new' _ _ _ (by simp)) (heap_alloc_new' _ _ _ (by simp)), ((((Below.refl _ _).alloc (Nat.le_refl _) _).alloc (by simp) _).alloc (by simp; omega) _).drew⟩

set_option maxHeartbeats 400000 in
theorem asPorts_range (b : Nat) (s : ByteArray) (n m : Int) (p2 : Option Addr) (w : World) (hb : b < w.heap.size) (h0 : w.cell? ⟨b, 0, none⟩ = some (.string s)) (h1 : w.cell? ⟨b, 1, none⟩ = some (.int .i64 n)) (h2 : w.cell? ⟨b, 2, none⟩ = some (.int .i64 m)) :
    Calls Trym.prog 35 #[.agg #[.pointer none, .pointer (some ⟨b, 0, none⟩), .pointer p2]] w fun e w' => ∃ v L, e = .returned v ∧ L.map (·.1) = [s] ∧ PortsAt w.heap.size w' v L ∧ Below w.heap.size w w' := by
  go_enter Trym.func35, Trym.ntmps35
  go_wp2
  go_region
  go_wp2
  go_ret
  exact ⟨_, [(s, w.heap.size + 1, m)], rfl, rfl, portsAt_one w.heap.size (w.heap.size + 1) (w.heap.size + 1 + 1) _ s n m _ (by omega) (by show (World.alloc _ _).heap[_]? = _; rw [Below.heap_alloc _ _ _ (by simp)]; exact heap_alloc_new' _ _ _ (by simp)) (heap_alloc_new' _ _ _ (by simp)), ((((Below.refl _ _).alloc (Nat.le_refl _) _).alloc (by simp) _).alloc (by simp; omega) _).drew⟩

set_option maxHeartbeats 400000 in
theorem asPorts_none (w : World)  :
    Calls Trym.prog 35 #[.agg #[.pointer none, .pointer none, .pointer none]] w fun e w' => ∃ v L, e = .returned v ∧ L.map (·.1) = ([] : List ByteArray) ∧ PortsAt w.heap.size w' v L ∧ Below w.heap.size w w' := by
  go_enter Trym.func35, Trym.ntmps35
  go_wp2
  go_ret
  exact ⟨_, [], rfl, rfl, portsAt_nil _ _, (Below.refl _ _).alloc (Nat.le_refl _) _⟩

theorem Trym.info70 : (Trym.prog.info? 70).map (fun i => (i.zero, i.size, i.bytes)) = some (some (.agg #[.string ⟨#[]⟩, .pointer none, .int .i64 0]), 3, 32) := by kernel_rfl

set_option maxRecDepth 100000 in
set_option maxHeartbeats 800000 in
theorem asPorts_name (b : Nat) (s : ByteArray) (w : World) (hb : b < w.heap.size) (h0 : w.cell? ⟨b, 0, none⟩ = some (.string s)) :
    Calls Trym.prog 35 #[.agg #[.pointer none, .pointer none, .pointer (some ⟨b, 0, none⟩)]] w fun e w' => ∃ v L, e = .returned v ∧ L.map (·.1) = protoTable ∧ PortsAt w.heap.size w' v L ∧ Below w.heap.size w w' := by
  obtain ⟨i0, hi, hz0, hz1, hz2⟩ := info_parts Trym.info70
  go_enter Trym.func35, Trym.ntmps35
  go_wp2
  go_loopw [5, 49] (fun v i wr => ∃ (k : Nat) (L : List (ByteArray × Nat × Int)), k ≤ 3 ∧ i = .int .i64 k ∧ L.map (·.1) = protoTable.take k ∧ L.length = k ∧ PortsAt (w.heap.size + 2) wr v L ∧
      Below (w.heap.size + 2) ((w.alloc (Obj.cells #[Value.pointer none, Value.pointer none, Value.pointer (some { block := b, off := 0 })] 62)).alloc (Obj.cells (protoTable.map Value.string).toArray 63)) wr)
    (fun _ i _ => 3 - (intOf i).toNat)
  case atStart => exact ⟨0, [], by omega, rfl, rfl, rfl, portsAt_nil _ _, Below.refl _ _⟩
  case round =>
    obtain ⟨k, L, hk, rfl, hL, hl, hP, hnx⟩ := hrel
    have HL : Hid (L.map (·.1) = protoTable.take k) := hL
    have Hl : Hid (L.length = k) := hl
    have hsz := hnx.size
    simp only [World.size_alloc] at hsz
    by_cases hlt : k < 3
    · have c2 : wr.cell? ⟨w.heap.size, 2, none⟩ = some (.pointer (some ⟨b, 0, none⟩)) := (hnx.cell (by simp)).trans (by simp)
      have cb : wr.cell? ⟨b, 0, none⟩ = some (.string s) := (hnx.cell (by simp; omega)).trans (by rw [World.cell?_alloc_past _ _ _ (by simp; omega), World.cell?_alloc_past _ _ _ hb]; exact h0)
      obtain ⟨p, hp⟩ : ∃ p, p = protoTable.getD k ByteArray.empty := ⟨_, rfl⟩
      have c1 : wr.cell? ⟨w.heap.size + 1, k, none⟩ = some (.string p) := (hnx.cell (by simp)).trans (by rw [World.cell?_alloc_at _ _ _ _ (by simp), hp]; match k, hlt with | 0, _ => rfl | 1, _ => rfl | 2, _ => rfl)
      have HP : Hid (p = protoTable.getD k ByteArray.empty) := hp
      clear hp hL hl
      have hsz2 : w.heap.size + 2 ≤ wr.heap.size := hsz
      clear hsz
      have HN : Hid (Below (w.heap.size + 2) ((w.alloc (Obj.cells #[Value.pointer none, Value.pointer none, Value.pointer (some { block := b, off := 0 })] 62)).alloc (Obj.cells (protoTable.map Value.string).toArray 63)) wr) := hnx
      clear hnx
      go_wp2_with (first
        | (at_builtin; (refine wpList_append_own _ rfl _ _ 66 rfl (w.heap.size + 2) 70 i0 _ 3 32 Trym.underlying66 hi hz0 hz1 hz2 rfl (by decide) _ _ _ rfl ((hP.1.alloc _).alloc _) ⟨wr.heap.size + 1, 0, none⟩ 1 1 (row3 (p, wr.heap.size, 0)) rfl rfl ?c1 ?c2 ?c3 ?c4 ?c5 ?_))
        | go_in)
      case c1 =>
        intro j u hj
        match j, hj with
        | 0, hj => simp [row3] at hj; subst hj; simp [Addr.add]
        | 1, hj => simp [row3] at hj; subst hj; simp [Addr.add]
        | 2, hj => simp [row3] at hj; subst hj; simp [Addr.add]
        | (n + 3), hj => simp [row3] at hj
      case c2 => intro u hu; simp [row3] at hu; rcases hu with rfl | rfl | rfl <;> rfl
      case c3 => rw [Hl.out]; unfold maxLen; omega
      case c4 => rw [Hl.out]; omega
      case c5 => simp; omega
      intro v' w1 hown' hgrow _
      have hP' := portsAt_snoc hP hown' hgrow
      have hnx' : Below (w.heap.size + 2) ((w.alloc (Obj.cells #[Value.pointer none, Value.pointer none, Value.pointer (some { block := b, off := 0 })] 62)).alloc (Obj.cells (protoTable.map Value.string).toArray 63)) w1 :=
        ((HN.out.alloc hsz2 _).alloc (by simp; omega) _).grown hgrow (by simp; omega) (fun q hq => (hP.1.lt q hq).1)
      have HN' : Hid _ := hnx'
      clear hnx' hown' hgrow hP c1 c2 cb
      go_wp2
      go_roundw
      case rel => exact ⟨k + 1, _, by omega, by go_num, table_snoc hlt HP.out HL.out, by simp [Hl.out], hP', HN'.out⟩
      case measure => simp [intOf]; omega
    · have hk3 : k = 3 := by omega
      subst hk3
      go_wp2
      go_ret
      exact ⟨_, L, rfl, HL.out, hP.base (by omega), (((Below.refl _ _).alloc (Nat.le_refl _) _).alloc (by simp) _).trans (hnx.mono (by omega))⟩
end Go.Proofs.Qxb6001295aMods
