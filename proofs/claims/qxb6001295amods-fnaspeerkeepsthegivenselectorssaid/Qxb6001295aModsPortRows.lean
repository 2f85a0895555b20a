import Derived.Test.Qxb6001295aModsPortParts
/-! Lemmas outside the walk, for ZZAsPorts: the struct under construction, five slices that grow side by side. No Go in sight. -/
namespace Go.Proofs.Qxb6001295aMods
open Go.RowKit

def protosOf (a0 : Bool) (s1 : ByteArray) (a3 : Bool) (s4 : ByteArray) (a7 : Bool) : List ByteArray :=
  if a0 then [s1] else if a3 then [s4] else if a7 then protoTable else []

theorem protosOf_le (a0 : Bool) (s1 : ByteArray) (a3 : Bool) (s4 : ByteArray) (a7 : Bool) : (protosOf a0 s1 a3 s4 a7).length ≤ 3 := by
  unfold protosOf; cases a0 <;> cases a3 <;> cases a7 <;> simp [protoTable]

/-- A field of the struct: nil, or a pointer to a box of the call's own with these cells. -/
def Fld (B : Nat) (w : World) (a : Bool) (cs : List Value) (p : Option Addr) : Prop :=
  (a = false ∧ p = none) ∨ (a = true ∧ ∃ b, p = some ⟨b, 0, none⟩ ∧ B < b ∧ b < w.heap.size ∧ ∀ j u, cs[j]? = some u → w.cell? ⟨b, j, none⟩ = some u)

theorem Fld.kept {B : Nat} {w w' : World} {a : Bool} {cs : List Value} {p : Option Addr} (h : Fld B w a cs p) (hs : w.heap.size ≤ w'.heap.size) (hk : ∀ b o, B < b → b < w.heap.size → w'.cell? ⟨b, o, none⟩ = w.cell? ⟨b, o, none⟩) : Fld B w' a cs p := by
  rcases h with h | ⟨h, b, hp, h1, h2, hc⟩
  · exact .inl h
  · exact .inr ⟨h, b, hp, h1, by omega, fun j u hj => (hk b j h1 h2).trans (hc j u hj)⟩

def Hd (B : Nat) (w : World) (p0 p1 p2 : Option Addr) : Prop := w.heap[B]? = some (.cells #[.pointer p0, .pointer p1, .pointer p2] 62 (0, 0))

theorem Hd.c0 {B : Nat} {w : World} {p0 p1 p2 : Option Addr} (h : Hd B w p0 p1 p2) : w.cell? ⟨B, 0, none⟩ = some (.pointer p0) := by unfold Hd at h; simp [World.cell?, h]
theorem Hd.c1 {B : Nat} {w : World} {p0 p1 p2 : Option Addr} (h : Hd B w p0 p1 p2) : w.cell? ⟨B, 1, none⟩ = some (.pointer p1) := by unfold Hd at h; simp [World.cell?, h]
theorem Hd.c2 {B : Nat} {w : World} {p0 p1 p2 : Option Addr} (h : Hd B w p0 p1 p2) : w.cell? ⟨B, 2, none⟩ = some (.pointer p2) := by unfold Hd at h; simp [World.cell?, h]
theorem Hd.free {B : Nat} {w : World} {p0 p1 p2 : Option Addr} (h : Hd B w p0 p1 p2) (o : Nat) : w.frozen? ⟨B, o, none⟩ = false := by unfold Hd at h; simp [World.frozen?, h]
theorem Hd.lt {B : Nat} {w : World} {p0 p1 p2 : Option Addr} (h : Hd B w p0 p1 p2) : B < w.heap.size := lt_of_block h
theorem Hd.alloc {B : Nat} {w : World} {p0 p1 p2 : Option Addr} (h : Hd B w p0 p1 p2) (o : Obj) : Hd B (w.alloc o) p0 p1 p2 := (Below.heap_alloc w o B h.lt).trans h

theorem heap_setCell_self {w : World} {b o : Nat} {cs : Array Value} {t : TypeId} {u : Value} (h : w.heap[b]? = some (.cells cs t (0, 0))) : (w.setCell ⟨b, o, none⟩ u).heap[b]? = some (.cells (cs.setIfInBounds o u) t (0, 0)) := by
  have hlt := lt_of_block h
  have h' : w.heap[b] = .cells cs t (0, 0) := by simpa [Array.getElem?_eq_getElem hlt] using h
  show (w.heap.modify b _)[b]? = _
  rw [Array.getElem?_eq_getElem (by simpa using hlt), Array.getElem_modify_self, h']
  simp

theorem Hd.set0 {B : Nat} {w : World} {p0 p1 p2 : Option Addr} (h : Hd B w p0 p1 p2) (p : Option Addr) : Hd B (w.setCell ⟨B, 0, none⟩ (.pointer p)) p p1 p2 := (heap_setCell_self h).trans rfl
theorem Hd.set1 {B : Nat} {w : World} {p0 p1 p2 : Option Addr} (h : Hd B w p0 p1 p2) (p : Option Addr) : Hd B (w.setCell ⟨B, 1, none⟩ (.pointer p)) p0 p p2 := (heap_setCell_self h).trans rfl
theorem Hd.set2 {B : Nat} {w : World} {p0 p1 p2 : Option Addr} (h : Hd B w p0 p1 p2) (p : Option Addr) : Hd B (w.setCell ⟨B, 2, none⟩ (.pointer p)) p0 p1 p := (heap_setCell_self h).trans rfl

theorem Fld.new {B : Nat} (w : World) (cs : List Value) (t : TypeId) (hB : B < w.heap.size) : Fld B (w.alloc (.cells cs.toArray t)) true cs (some ⟨w.heap.size, 0, none⟩) :=
  .inr ⟨rfl, w.heap.size, rfl, hB, by simp, fun j u hj => by rw [World.cell?_alloc_at _ _ _ _ rfl]; simpa using hj⟩

theorem Fld.new' {B : Nat} (w : World) (cs : List Value) (t : TypeId) {n : Nat} (hB : B < n) (hn : n = w.heap.size) : Fld B (w.alloc (.cells cs.toArray t)) true cs (some ⟨n, 0, none⟩) := by
  subst hn
  exact Fld.new w cs t hB

theorem Fld.after {B o : Nat} {w : World} {a : Bool} {cs : List Value} {p : Option Addr} (h : Fld B w a cs p) (u : Value) (x : Obj) : Fld B ((w.setCell ⟨B, o, none⟩ u).alloc x) a cs p := by
  refine h.kept (by simp [World.setCell]) fun b j hb hl => World.cell?_of_block ?_
  rw [Below.heap_alloc _ _ _ (by simpa [World.setCell] using hl)]
  exact Below.heap_setCell _ _ _ _ (by show b ≠ B; omega)

/-- What the ports' slice holds, port by port. -/
theorem PortsAt.view {b : Nat} {w : World} {v : Value} {L : List (ByteArray × Nat × Int)} (h : PortsAt b w v L) :
    ∃ ao cap, v = .slice ao L.length cap ∧ ∀ k t, L[k]? = some t → ∃ g x y, ao = some ⟨g, 0, none⟩ ∧ g < w.heap.size ∧ t.2.1 < w.heap.size ∧
      w.cell? ⟨g, k * 3, none⟩ = some (.string t.1) ∧ w.cell? ⟨g, k * 3 + 1, none⟩ = some (.pointer (some ⟨t.2.1, 0, none⟩)) ∧ w.cell? ⟨g, k * 3 + 2, none⟩ = some (.int .i64 t.2.2) ∧
      w.cell? ⟨t.2.1, 0, none⟩ = some (.int .i64 x) ∧ w.cell? ⟨t.2.1, 1, none⟩ = some (.string y) := by
  obtain ⟨hown, hbox⟩ := h
  have hfl : ∀ (L : List (ByteArray × Nat × Int)) k t, L[k]? = some t → (L.flatMap row3)[k * 3]? = some (.string t.1) ∧ (L.flatMap row3)[k * 3 + 1]? = some (.pointer (some ⟨t.2.1, 0, none⟩)) ∧ (L.flatMap row3)[k * 3 + 2]? = some (.int .i64 t.2.2) := by
    intro L
    induction L with
    | nil => intro k t hk; simp at hk
    | cons a L ih =>
      intro k t hk
      cases k with
      | zero => simp at hk; subst hk; simp [row3]
      | succ k =>
        have := ih k t (by simpa using hk)
        rw [List.flatMap_cons]
        have e0 : (k + 1) * 3 = k * 3 + 3 := by omega
        simp only [row3, e0, List.cons_append, List.nil_append] at this ⊢
        simpa using this
  rcases hown.2 with ⟨rfl, hn⟩ | ⟨g, cap, cur, rfl, hb, hg, rest⟩
  · have : L = [] := List.eq_nil_of_length_eq_zero hn
    subst this
    exact ⟨none, 0, rfl, by simp⟩
  · refine ⟨some ⟨g, 0, none⟩, cap, rfl, fun k t hk => ?_⟩
    obtain ⟨x, y, hq⟩ := hbox t (List.mem_of_getElem? hk)
    obtain ⟨f0, f1, f2⟩ := hfl L k t hk
    have hc := hown.cells (g := g) rfl
    have ad : ∀ j, (⟨g, 0, none⟩ : Addr).add j = ⟨g, j, none⟩ := fun j => by simp [Addr.add]; exact Eq.symm
    exact ⟨g, x, y, rfl, lt_of_block hg, lt_of_block hq, by rw [← ad]; exact hc _ _ f0, by rw [← ad]; exact hc _ _ f1, by rw [← ad]; exact hc _ _ f2, by simp [World.cell?, hq], by simp [World.cell?, hq]⟩

/-- Two slices of the call's own lie in two rows. -/
def Parted (v u : Value) : Prop := v.ownBlock = none ∨ v.ownBlock ≠ u.ownBlock

theorem parted_type {w : World} {B B' : Nat} {e e' : TypeId} {s s' : Nat} {v v' : Value} {n n' : Nat} {xs xs' : List Value} (h : w.ownsRow B e s v n xs) (h' : w.ownsRow B' e' s' v' n' xs') (ne : e ≠ e') : Parted v v' := by
  rcases h.2 with ⟨rfl, _⟩ | ⟨g, cap, cur, rfl, hb, hg, rest⟩
  · exact .inl rfl
  · refine .inr ?_
    rcases h'.2 with ⟨rfl, _⟩ | ⟨g', cap', cur', rfl, hb', hg', rest'⟩
    · simp [Value.ownBlock]
    · simp only [Value.ownBlock, ne_eq, Option.some.injEq]
      intro e2
      subst e2
      rw [hg] at hg'
      simp at hg'
      exact ne hg'.2

/-- Behind an append onto v, which now is v', another slice u still lies apart. -/
theorem Parted.step {w : World} {B : Nat} {e : TypeId} {s : Nat} {v v' u : Value} {n : Nat} {xs : List Value} (h : Parted u v) (hu : w.ownsRow B e s u n xs) (hat : v'.ownBlock = v.ownBlock ∨ v'.ownBlock = some w.heap.size) : Parted u v' := by
  rcases h with h | h
  · exact .inl h
  · rcases hat with e | e
    · exact .inr (by rw [e]; exact h)
    · refine .inr ?_
      rw [e]
      intro e2
      have := (hu.lt _ e2).2
      omega

theorem Parted.step1 {w : World} {B : Nat} {e : TypeId} {s : Nat} {v v' u : Value} {n : Nat} {xs : List Value} (h : Parted u v) (hu : w.ownsRow B e s u n xs) (hat : v'.ownBlock = v.ownBlock ∨ v'.ownBlock = some (w.heap.size + 1)) : Parted u v' :=
  h.step (w := w.alloc (.map #[] 0)) (hu.alloc _) (by simpa using hat)

theorem Parted.symm {w : World} {B : Nat} {e : TypeId} {s : Nat} {v u : Value} {n : Nat} {xs : List Value} (h : Parted u v) (hv : w.ownsRow B e s v n xs) : Parted v u := by
  rcases h with h | h
  · rcases hv.2 with ⟨rfl, _⟩ | ⟨g, cap, cur, rfl, _⟩
    · exact .inl rfl
    · exact .inr (by rw [h]; simp [Value.ownBlock])
  · exact .inr (Ne.symm h)

structure Five (B : Nat) (w : World) (v0 v1 v2 v3 v4 : Value) (ps : List ByteArray) : Prop where
  o0 : w.ownsRow B 9 1 v0 ps.length (ps.map .string)
  o1 : w.ownsRow B 4 1 v1 ps.length (ps.map fun _ => .bool true)
  o2 : ∃ xs, w.ownsRow B 3 1 v2 ps.length xs
  o3 : ∃ xs, w.ownsRow B 9 1 v3 ps.length xs
  o4 : ∃ xs, w.ownsRow B 3 1 v4 ps.length xs
  a03 : Parted v0 v3
  a24 : Parted v2 v4

theorem five_nil (B : Nat) (w : World) : Five B w (.slice none 0 0) (.slice none 0 0) (.slice none 0 0) (.slice none 0 0) (.slice none 0 0) [] :=
  ⟨World.ownsRow_nil _ _ _ _, World.ownsRow_nil _ _ _ _, ⟨_, World.ownsRow_nil _ _ _ _⟩, ⟨_, World.ownsRow_nil _ _ _ _⟩, ⟨_, World.ownsRow_nil _ _ _ _⟩, .inl rfl, .inl rfl⟩

theorem Five.base {B B' : Nat} {w : World} {v0 v1 v2 v3 v4 : Value} {ps : List ByteArray} (h : Five B w v0 v1 v2 v3 v4 ps) (hb : B' ≤ B) : Five B' w v0 v1 v2 v3 v4 ps := by
  obtain ⟨o0, o1, ⟨x2, o2⟩, ⟨x3, o3⟩, ⟨x4, o4⟩, a03, a24⟩ := h
  exact ⟨ownsRow_base o0 hb, ownsRow_base o1 hb, ⟨x2, ownsRow_base o2 hb⟩, ⟨x3, ownsRow_base o3 hb⟩, ⟨x4, ownsRow_base o4 hb⟩, a03, a24⟩

theorem five_snoc {B k : Nat} {w : World} {v0 v1 v2 v3 v4 : Value} {L : List (ByteArray × Nat × Int)} {s : ByteArray} {q : Nat} {z : Int} {x2 x3 x4 : List Value} (hk : k < L.length) (ht : (s, q, z) = L[k])
    (o0 : w.ownsRow B 9 1 v0 (k + 1) (((L.map (·.1)).take k).map .string ++ [.string s]))
    (o1 : w.ownsRow B 4 1 v1 (k + 1) ((((L.map (·.1)).take k).map fun _ => .bool true) ++ [.bool true]))
    (o2 : w.ownsRow B 3 1 v2 (k + 1) x2) (o3 : w.ownsRow B 9 1 v3 (k + 1) x3) (o4 : w.ownsRow B 3 1 v4 (k + 1) x4) (a03 : Parted v0 v3) (a24 : Parted v2 v4) :
    Five B w v0 v1 v2 v3 v4 ((L.map (·.1)).take (k + 1)) := by
  have e : (L.map (·.1)).take (k + 1) = (L.map (·.1)).take k ++ [s] := by
    rw [List.take_succ_eq_append_getElem (by simpa using hk), List.getElem_map, ← ht]
  have hl : ((L.map (·.1)).take (k + 1)).length = k + 1 := by simp; omega
  refine ⟨?_, ?_, ⟨x2, ?_⟩, ⟨x3, ?_⟩, ⟨x4, ?_⟩, a03, a24⟩
  · rw [hl, e]; simpa using o0
  · rw [hl, e]; simpa using o1
  · rw [hl]; exact o2
  · rw [hl]; exact o3
  · rw [hl]; exact o4

theorem protosOf_pos (a0 : Bool) (s1 : ByteArray) (a3 : Bool) (s4 : ByteArray) (a7 : Bool) : (a0 || a3 || a7) = decide ((0 : Int) < ((protosOf a0 s1 a3 s4 a7).length : Int)) := by
  unfold protosOf; cases a0 <;> cases a3 <;> cases a7 <;> simp [protoTable]

def canon (p : ByteArray) : ByteArray := if p.toList = [] then ⟨#[84, 67, 80]⟩ else p

theorem protosOf_pw (a0 : Bool) (s1 : ByteArray) (a3 : Bool) (s4 : ByteArray) (a7 : Bool) : ∀ (j k : Nat) (p q : ByteArray), j < k → (protosOf a0 s1 a3 s4 a7)[j]? = some p → (protosOf a0 s1 a3 s4 a7)[k]? = some q → ((canon p).toList == (canon q).toList) = false := by
  intro j k p q hjk hj hk
  have one : ∀ s : ByteArray, ([s] : List ByteArray)[k]? = some q → False := fun s h => by
    cases k with
    | zero => omega
    | succ k => simp at h
  unfold protosOf at hj hk
  cases a0
  · cases a3
    · cases a7
      · simp at hj
      · simp only [Bool.false_eq_true, if_false, if_true, protoTable] at hj hk
        have hk3 : k < 3 := by
          rcases Nat.lt_or_ge k 3 with h | h
          · exact h
          · rw [List.getElem?_eq_none (by simpa using h)] at hk; cases hk
        rcases (show (j = 0 ∧ k = 1) ∨ (j = 0 ∧ k = 2) ∨ (j = 1 ∧ k = 2) from by omega) with ⟨rfl, rfl⟩ | ⟨rfl, rfl⟩ | ⟨rfl, rfl⟩
        all_goals
          simp at hj hk
          subst hj hk
          decide +kernel
    · exact (one s4 (by simpa using hk)).elim
  · exact (one s1 (by simpa using hk)).elim

/-- What a slice of one-cell elements holds, element by element. -/
theorem row1_view {w : World} {B : Nat} {e : TypeId} {v : Value} {n : Nat} {xs : List Value} (h : w.ownsRow B e 1 v n xs) :
    ∃ ao cap, v = .slice ao n cap ∧ xs.length = n ∧ ∀ k, k < n → ∃ g, ao = some ⟨g, 0, none⟩ ∧ B ≤ g ∧ g < w.heap.size ∧ ∀ j u, xs[j]? = some u → w.cell? ⟨g, j, none⟩ = some u := by
  have hl : xs.length = n := by simpa using h.1
  rcases h.2 with ⟨rfl, rfl⟩ | ⟨g, cap, cur, rfl, hb, hg, rest⟩
  · exact ⟨none, 0, rfl, hl, fun k hk => absurd hk (by omega)⟩
  · refine ⟨some ⟨g, 0, none⟩, cap, rfl, hl, fun k hk => ⟨g, rfl, hb, lt_of_block hg, fun j u hj => ?_⟩⟩
    have hc := h.cells (g := g) rfl j u hj
    have ad : (⟨g, 0, none⟩ : Addr).add j = ⟨g, j, none⟩ := by simp [Addr.add]; exact Eq.symm
    rw [ad] at hc
    exact hc

end Go.Proofs.Qxb6001295aMods
