import Derived.Test.Qxb6001295aModsAsPeer
import Derived.Test.Qxb6001295aModsPortRows
import Derived.Deep.DeepCutAuto
namespace Go.Proofs.Qxb6001295aMods
open Go.RowKit
set_option linter.unusedVariables false

/-- Above block B the old cells read as they did. -/
def Keep (B : Nat) (w w' : World) : Prop := w.heap.size ≤ w'.heap.size ∧ ∀ b o, B < b → b < w.heap.size → w'.cell? ⟨b, o, none⟩ = w.cell? ⟨b, o, none⟩

theorem Keep.alloc {B : Nat} {w w' : World} (h : Keep B w w') (x : Obj) : Keep B w (w'.alloc x) :=
  ⟨by have := h.1; simp; omega, fun b o h1 h2 => (World.cell?_alloc_past _ _ _ (by have := h.1; omega)).trans (h.2 b o h1 h2)⟩
theorem keep_set (B : Nat) (w : World) (o : Nat) (u : Value) : Keep B w (w.setCell ⟨B, o, none⟩ u) :=
  ⟨by simp, fun b j h1 h2 => World.cell?_of_block (Below.heap_setCell _ _ _ _ (by show b ≠ B; omega))⟩
theorem keep_below {B : Nat} {w w' : World} (h : Below w.heap.size w w') : Keep B w w' := ⟨h.size, fun b o _ h2 => h.cell (p := ⟨b, o, none⟩) h2⟩

/-- A selector: none, or a box of the call's own that leads to the map m. -/
def Sel (B : Nat) (w : World) (a : Bool) (m : Option Nat) (q : Option Addr) : Prop :=
  (a = false ∧ q = none) ∨ (a = true ∧ ∃ s, q = some ⟨s, 0, none⟩ ∧ B < s ∧ s < w.heap.size ∧ w.cell? ⟨s, 0, none⟩ = some (.map m))

theorem Sel.kept {B : Nat} {w w' : World} {a : Bool} {m : Option Nat} {q : Option Addr} (h : Sel B w a m q) (k : Keep B w w') : Sel B w' a m q := by
  rcases h with h | ⟨h, s, h1, h2, h3, h4⟩
  · exact .inl h
  · exact .inr ⟨h, s, h1, h2, by have := k.1; omega, (k.2 s 0 h2 h3).trans h4⟩

theorem NpAt.kept {B : Nat} {w w' : World} {b : Nat} {q x5 : Option Addr} {l5 c5 : Nat} {x6 : Option Addr} {l6 c6 : Nat} (h : NpAt w b q x5 l5 c5 x6 l6 c6) (hb : B < b) (k : Keep B w w') : NpAt w' b q x5 l5 c5 x6 l6 c6 :=
  ⟨Nat.lt_of_lt_of_le h.lt k.1, (k.2 b 0 hb h.lt).trans h.k0, (k.2 b 1 hb h.lt).trans h.k1, (k.2 b 2 hb h.lt).trans h.k2⟩

def NsForm (B : Nat) (w : World) (a0 a2 : Bool) (m1 : Option Nat) (x5 : Option Addr) (l5 c5 : Nat) (x6 : Option Addr) (l6 c6 : Nat) (p0 : Option Addr) : Prop :=
  (a0 = false ∧ p0 = none) ∨ (a0 = true ∧ ∃ b q, p0 = some ⟨b, 0, none⟩ ∧ B < b ∧ NpAt w b q x5 l5 c5 x6 l6 c6 ∧ Sel B w a2 m1 q)

def PodForm (B : Nat) (w : World) (a1 a7 : Bool) (m2 m3 : Option Nat) (x5 : Option Addr) (l5 c5 : Nat) (x6 : Option Addr) (l6 c6 : Nat) (p1 : Option Addr) : Prop :=
  (a1 = false ∧ p1 = none) ∨ (a1 = true ∧ ∃ b q, p1 = some ⟨b, 0, none⟩ ∧ B < b ∧ NpAt w b q x5 l5 c5 x6 l6 c6 ∧ Sel B w a7 m2 q ∧ w.cell? ⟨b, 3, none⟩ = some (.map m3))

theorem NsForm.kept {B : Nat} {w w' : World} {a0 a2 : Bool} {m1 : Option Nat} {x5 : Option Addr} {l5 c5 : Nat} {x6 : Option Addr} {l6 c6 : Nat} {p0 : Option Addr} (h : NsForm B w a0 a2 m1 x5 l5 c5 x6 l6 c6 p0) (k : Keep B w w') : NsForm B w' a0 a2 m1 x5 l5 c5 x6 l6 c6 p0 := by
  rcases h with h | ⟨h, b, q, h1, h2, h3, h4⟩
  · exact .inl h
  · exact .inr ⟨h, b, q, h1, h2, h3.kept h2 k, h4.kept k⟩

def Hd2 (B : Nat) (w : World) (p0 p1 : Option Addr) : Prop := w.heap[B]? = some (.cells #[.pointer p0, .pointer p1] 76 (0, 0))
theorem Hd2.c0 {B : Nat} {w : World} {p0 p1 : Option Addr} (h : Hd2 B w p0 p1) : w.cell? ⟨B, 0, none⟩ = some (.pointer p0) := by unfold Hd2 at h; simp [World.cell?, h]
theorem Hd2.c1 {B : Nat} {w : World} {p0 p1 : Option Addr} (h : Hd2 B w p0 p1) : w.cell? ⟨B, 1, none⟩ = some (.pointer p1) := by unfold Hd2 at h; simp [World.cell?, h]
theorem Hd2.free {B : Nat} {w : World} {p0 p1 : Option Addr} (h : Hd2 B w p0 p1) (o : Nat) : w.frozen? ⟨B, o, none⟩ = false := by unfold Hd2 at h; simp [World.frozen?, h]
theorem Hd2.lt {B : Nat} {w : World} {p0 p1 : Option Addr} (h : Hd2 B w p0 p1) : B < w.heap.size := lt_of_block h
theorem Hd2.alloc {B : Nat} {w : World} {p0 p1 : Option Addr} (h : Hd2 B w p0 p1) (o : Obj) : Hd2 B (w.alloc o) p0 p1 := (Below.heap_alloc w o B h.lt).trans h
theorem Hd2.set1 {B : Nat} {w : World} {p0 p1 : Option Addr} (h : Hd2 B w p0 p1) (p : Option Addr) : Hd2 B (w.setCell ⟨B, 1, none⟩ (.pointer p)) p0 p := (heap_setCell_self h).trans rfl

/-- Cells of a block that has just been made, or of the one before. -/
theorem new_cell (w : World) (cs : Array Value) (t : TypeId) (n i : Nat) (hn : n = w.heap.size) : (w.alloc (.cells cs t)).cell? ⟨n, i, none⟩ = cs[i]? := World.cell?_alloc_at _ _ _ _ hn
theorem old_cell (w : World) (o : Obj) (n i : Nat) (hn : n < w.heap.size) : (w.alloc o).cell? ⟨n, i, none⟩ = w.cell? ⟨n, i, none⟩ := World.cell?_alloc_past _ _ _ hn

/-- What asPeer hands back, in both forms. -/
def PeerOut (B : Nat) (w : World) (e : Ending) (a0 a1 a2 : Bool) (m1 : Option Nat) (l5 l6 : Nat) (a7 : Bool) (m2 m3 : Option Nat) : Prop :=
  (enforceB a0 a1 a2 l5 l6 a7 = false ∧ Refused e) ∨
  (enforceB a0 a1 a2 l5 l6 a7 = true ∧ ∃ pp s, Taken e pp (some ⟨s, 0, none⟩) ∧ s < w.heap.size ∧ w.cell? ⟨s, 0, none⟩ = some (.map (if a0 then m1 else m2)) ∧
    ((a0 = true ∧ pp = none) ∨ (a0 = false ∧ ∃ b, pp = some ⟨b, 3, none⟩ ∧ b < w.heap.size ∧ w.cell? ⟨b, 3, none⟩ = some (.map m3))))

theorem asPeer_all (B : Nat) (w : World) (a0 a1 a2 : Bool) (m1 : Option Nat) (x5 : Option Addr) (l5 c5 : Nat) (x6 : Option Addr) (l6 c6 : Nat) (a7 : Bool) (m2 m3 : Option Nat) (p0 p1 : Option Addr)
    (h0 : NsForm B w a0 a2 m1 x5 l5 c5 x6 l6 c6 p0) (h1 : PodForm B w a1 a7 m2 m3 x5 l5 c5 x6 l6 c6 p1) :
    Calls Trym.prog 36 #[.agg #[.pointer p0, .pointer p1]] w fun e w' => PeerOut B w e a0 a1 a2 m1 l5 l6 a7 m2 m3 ∧ Below w.heap.size w w' := by
  rcases h0 with ⟨rfl, rfl⟩ | ⟨rfl, b, q, rfl, hb, hnp, hsel⟩
  · rcases h1 with ⟨rfl, rfl⟩ | ⟨rfl, b, q, rfl, hb, hnp, hsel, hm⟩
    · refine (asPeer_none w).mono fun e w' h => ⟨.inl ⟨by simp [enforceB], h.1⟩, h.2⟩
    · refine (asPeer_pods b q x5 l5 c5 x6 l6 c6 w hnp).mono fun e w' h => ⟨?_, h.2⟩
      have h' := h.1
      by_cases hc : l5 = 0 ∧ l6 = 0 ∧ q ≠ none
      · rw [if_pos hc] at h'
        rcases hsel with ⟨rfl, rfl⟩ | ⟨rfl, s, rfl, _, hs, hcs⟩
        · exact absurd rfl hc.2.2
        · exact .inr ⟨by simp [enforceB, hc.1, hc.2.1], some ⟨b, 3, none⟩, s, h', hs, hcs, .inr ⟨rfl, b, rfl, hnp.lt, hm⟩⟩
      · rw [if_neg hc] at h'
        refine .inl ⟨?_, h'⟩
        rcases hsel with ⟨rfl, rfl⟩ | ⟨rfl, s, rfl, _⟩
        · simp [enforceB]
        · have : ¬ (l5 = 0 ∧ l6 = 0) := fun k => hc ⟨k.1, k.2, by simp⟩
          simp only [enforceB]
          rw [if_pos (by omega)]
  · refine (asPeer_ns b p1 q x5 l5 c5 x6 l6 c6 w hnp).mono fun e w' h => ⟨?_, h.2⟩
    have h' := h.1
    by_cases hc : l5 = 0 ∧ l6 = 0 ∧ q ≠ none
    · rw [if_pos hc] at h'
      rcases hsel with ⟨rfl, rfl⟩ | ⟨rfl, s, rfl, _, hs, hcs⟩
      · exact absurd rfl hc.2.2
      · exact .inr ⟨by simp [enforceB, hc.1, hc.2.1], none, s, h', hs, hcs, .inl ⟨rfl, rfl⟩⟩
    · rw [if_neg hc] at h'
      refine .inl ⟨?_, h'⟩
      rcases hsel with ⟨rfl, rfl⟩ | ⟨rfl, s, rfl, _⟩
      · simp [enforceB]
      · have : ¬ (l5 = 0 ∧ l6 = 0) := fun k => hc ⟨k.1, k.2, by simp⟩
        simp only [enforceB]
        rw [if_pos (by omega)]

/-- What ZZAsPeer hands back, flat. -/
def FlatOut (e : Ending) (a0 a1 a2 : Bool) (m1 : Option Nat) (l5 l6 : Nat) (a7 : Bool) (m2 m3 : Option Nat) : Prop :=
  (enforceB a0 a1 a2 l5 l6 a7 = false ∧ ∃ r : ByteArray, e = .returned (.tuple #[.bool false, .map none, .bool false, .map none, .bool false, .string r]) ∧ r.toList.isEmpty = false) ∨
  (enforceB a0 a1 a2 l5 l6 a7 = true ∧ a0 = true ∧ e = .returned (.tuple #[.bool false, .map none, .bool true, .map m1, .bool false, .string ⟨#[]⟩])) ∨
  (enforceB a0 a1 a2 l5 l6 a7 = true ∧ a0 = false ∧ e = .returned (.tuple #[.bool true, .map m3, .bool true, .map m2, .bool false, .string ⟨#[]⟩]))

set_option maxRecDepth 100000 in
set_option maxHeartbeats 1600000 in
theorem zzAsPeer_any (a0 a1 a2 : Bool) (m1 : Option Nat) (x5 : Option Addr) (l5 c5 : Nat) (x6 : Option Addr) (l6 c6 : Nat) (a7 : Bool) (m2 m3 : Option Nat) (w : World) :
    Calls Trym.prog 28 #[.bool a0, .bool a1, .bool a2, .map m1, .slice x5 l5 c5, .slice x6 l6 c6, .bool a7, .map m2, .map m3] w fun e w' => FlatOut e a0 a1 a2 m1 l5 l6 a7 m2 m3 ∧ Below w.heap.size w w' := by
  go_enter Trym.func28, Trym.ntmps28
  go_upto_if 29 with fail
  go_cut [] (fun wc => ∃ p0, NsForm w.heap.size wc a0 a2 m1 x5 l5 c5 x6 l6 c6 p0 ∧ Hd2 w.heap.size wc p0 none ∧ Below w.heap.size w wc)
  case first =>
    cases a0
    · go_wp2
      go_meet
      exact ⟨none, .inl ⟨rfl, rfl⟩, heap_alloc_new _ _, (Below.refl _ _).alloc (Nat.le_refl _) _⟩
    · cases a2
      · go_wp2
        go_meet
        exact ⟨some ⟨w.heap.size + 1, 0, none⟩, .inr ⟨rfl, w.heap.size + 1, none, rfl, by omega, ⟨by simp, new_cell _ _ _ _ _ (by simp), new_cell _ _ _ _ _ (by simp), new_cell _ _ _ _ _ (by simp)⟩, .inl ⟨rfl, rfl⟩⟩, (Below.heap_alloc _ _ _ (by simp)).trans (heap_alloc_new _ _), ((Below.refl _ _).alloc (Nat.le_refl _) _).alloc (by simp) _⟩
      · go_wp2
        go_meet
        exact ⟨some ⟨w.heap.size + 1, 0, none⟩, .inr ⟨rfl, w.heap.size + 1, some ⟨w.heap.size + 1 + 1, 0, none⟩, rfl, by omega, ⟨by simp, (old_cell _ _ _ _ (by simp)).trans (new_cell _ _ _ _ _ (by simp)), (old_cell _ _ _ _ (by simp)).trans (new_cell _ _ _ _ _ (by simp)), (old_cell _ _ _ _ (by simp)).trans (new_cell _ _ _ _ _ (by simp))⟩, .inr ⟨rfl, w.heap.size + 1 + 1, rfl, by omega, by simp, new_cell _ _ _ _ _ (by simp)⟩⟩, (Below.heap_alloc _ _ _ (by simp; omega)).trans ((Below.heap_alloc _ _ _ (by simp)).trans (heap_alloc_new _ _)), (((Below.refl _ _).alloc (Nat.le_refl _) _).alloc (by simp) _).alloc (by simp; omega) _⟩
  case rest =>
    obtain ⟨p0, hns, hd, hb⟩ := hcut
    have k1 := hd.c1
    have z1 := hd.free 1
    have hl := hd.lt
    have hl1 : w.heap.size < wc.heap.size + 1 := by omega
    have hl2 : w.heap.size < wc.heap.size + 1 + 1 := by omega
    have hsz := hb.size
    go_upto_if 40 with fail
    go_cut [] (fun wc => ∃ p0 p1, NsForm w.heap.size wc a0 a2 m1 x5 l5 c5 x6 l6 c6 p0 ∧ PodForm w.heap.size wc a1 a7 m2 m3 x5 l5 c5 x6 l6 c6 p1 ∧ Hd2 w.heap.size wc p0 p1 ∧ Below w.heap.size w wc)
    case first =>
      cases a1
      · go_wp2
        go_meet
        exact ⟨p0, none, hns, .inl ⟨rfl, rfl⟩, hd, hb⟩
      · cases a7
        · go_wp2
          go_meet
          exact ⟨p0, some ⟨wc.heap.size + 1, 0, none⟩, hns.kept (((keep_set _ _ _ _).alloc _).alloc _), .inr ⟨rfl, wc.heap.size + 1, none, rfl, by omega, ⟨by simp, new_cell _ _ _ _ _ (by simp), new_cell _ _ _ _ _ (by simp), new_cell _ _ _ _ _ (by simp)⟩, .inl ⟨rfl, rfl⟩, new_cell _ _ _ _ _ (by simp)⟩, ((hd.set1 _).alloc _).alloc _, ((hb.setCell (Nat.le_refl _) _).alloc (by simpa using hsz) _).alloc (by simp; omega) _⟩
        · go_wp2
          go_meet
          exact ⟨p0, some ⟨wc.heap.size + 1 + 1, 0, none⟩, hns.kept ((((keep_set _ _ _ _).alloc _).alloc _).alloc _), .inr ⟨rfl, wc.heap.size + 1 + 1, some ⟨wc.heap.size + 1, 0, none⟩, rfl, by omega, ⟨by simp, new_cell _ _ _ _ _ (by simp), new_cell _ _ _ _ _ (by simp), new_cell _ _ _ _ _ (by simp)⟩, .inr ⟨rfl, wc.heap.size + 1, rfl, by omega, by simp, (old_cell _ _ _ _ (by simp)).trans (new_cell _ _ _ _ _ (by simp))⟩, new_cell _ _ _ _ _ (by simp)⟩, (((hd.set1 _).alloc _).alloc _).alloc _, (((hb.setCell (Nat.le_refl _) _).alloc (by simpa using hsz) _).alloc (by simp; omega) _).alloc (by simp; omega) _⟩
    case rest =>
      clear k1 z1 hl hl1 hl2 hsz hns hd hb
      obtain ⟨p0, p1, hns, hpod, hd, hb⟩ := hcut
      have k0 := hd.c0
      have k1 := hd.c1
      go_wp2_with fail
      refine (asPeer_all w.heap.size wc a0 a1 a2 m1 x5 l5 c5 x6 l6 c6 a7 m2 m3 p0 p1 hns hpod).mono ?_
      rintro e w2 ⟨hout, hb2⟩
      have hbw : Below w.heap.size w w2 := hb.trans (hb2.mono hb.size)
      have hsz2 := hbw.size
      rcases hout with ⟨hen, r, rfl, hr⟩ | ⟨hen, pp, s, ht, hs, hcs, hpp⟩
      · clear hns hpod hd k0 k1
        go_wp2
        exact bodyPost_ret (v := .tuple #[.bool false, .map none, .bool false, .map none, .bool false, .string r]) (by simp [results, Trym.results28, go_sem]) rfl ⟨.inl ⟨hen, r, rfl, hr⟩, hbw.alloc hsz2 _⟩
      · have hs2 : s < w2.heap.size := Nat.lt_of_lt_of_le hs hb2.size
        have hcs2 : w2.cell? ⟨s, 0, none⟩ = some (.map (if a0 then m1 else m2)) := (hb2.cell (p := ⟨s, 0, none⟩) hs).trans hcs
        have hs3 : s < w2.heap.size + 1 := by omega
        rcases hpp with ⟨rfl, rfl⟩ | ⟨rfl, b, rfl, hb', hcb⟩
        · simp only [if_true] at hcs2
          unfold Taken at ht
          subst ht
          clear hns hpod hd k0 k1 hcs
          go_wp2
          exact bodyPost_ret (v := .tuple #[.bool false, .map none, .bool true, .map m1, .bool false, .string ⟨#[]⟩]) (by simp [results, Trym.results28, go_sem]) rfl ⟨.inr (.inl ⟨hen, rfl, rfl⟩), hbw.alloc hsz2 _⟩
        · simp only [Bool.false_eq_true, if_false] at hcs2
          have hb2' : b < w2.heap.size := Nat.lt_of_lt_of_le hb' hb2.size
          have hb3' : b < w2.heap.size + 1 := by omega
          have hcb2 : w2.cell? ⟨b, 3, none⟩ = some (.map m3) := (hb2.cell (p := ⟨b, 3, none⟩) hb').trans hcb
          unfold Taken at ht
          subst ht
          clear hns hpod hd k0 k1 hcs hcb
          go_wp2
          exact bodyPost_ret (v := .tuple #[.bool true, .map m3, .bool true, .map m2, .bool false, .string ⟨#[]⟩]) (by simp [results, Trym.results28, go_sem]) rfl ⟨.inr (.inr ⟨hen, rfl, rfl⟩), hbw.alloc hsz2 _⟩

end Go.Proofs.Qxb6001295aMods
