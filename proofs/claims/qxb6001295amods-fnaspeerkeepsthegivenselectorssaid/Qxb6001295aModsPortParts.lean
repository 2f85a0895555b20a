import Derived.WalkKit
import Derived.ProofKit
import Derived.Maps.AppendAt
/-! Lemmas outside the walk: a port's three cells, the box behind it, what is owned stays owned. No Go in sight. -/
namespace Go.Proofs.Qxb6001295aMods
open Go.RowKit

def row3 (t : ByteArray × Nat × Int) : List Value := [.string t.1, .pointer (some ⟨t.2.1, 0, none⟩), .int .i64 t.2.2]
def Box (w : World) (q : Nat) : Prop := ∃ (x : Int) (y : ByteArray), w.heap[q]? = some (.cells #[.int .i64 x, .string y] 72 (0, 0))
def PortsAt (base : Nat) (w : World) (v : Value) (L : List (ByteArray × Nat × Int)) : Prop :=
  w.ownsRow base 70 3 v L.length (L.flatMap row3) ∧ ∀ t ∈ L, Box w t.2.1
def protoTable : List ByteArray := [⟨#[84, 67, 80]⟩, ⟨#[85, 68, 80]⟩, ⟨#[83, 67, 84, 80]⟩]

theorem ownsRow_base {w : World} {b b' : Nat} {e : TypeId} {size : Nat} {v : Value} {n : Nat} {xs : List Value} (h : w.ownsRow b e size v n xs) (hb : b' ≤ b) : w.ownsRow b' e size v n xs := by
  refine ⟨h.1, ?_⟩
  rcases h.2 with hn | ⟨g, cap, cur, hv, hg, rest⟩
  · exact .inl hn
  · exact .inr ⟨g, cap, cur, hv, Nat.le_trans hb hg, rest⟩

theorem PortsAt.base {w : World} {b b' : Nat} {v : Value} {L : List (ByteArray × Nat × Int)} (h : PortsAt b w v L) (hb : b' ≤ b) : PortsAt b' w v L := ⟨ownsRow_base h.1 hb, h.2⟩

theorem portsAt_nil (b : Nat) (w : World) : PortsAt b w (.slice none 0 0) [] := ⟨World.ownsRow_nil w b 70 3, by simp⟩

theorem Box.alloc {w : World} {q : Nat} (h : Box w q) (o : Obj) : Box (w.alloc o) q := by
  obtain ⟨x, y, h⟩ := h
  exact ⟨x, y, (Below.heap_alloc w o q (lt_of_block h)).trans h⟩

theorem heap_alloc_new' (w : World) (o : Obj) (k : Nat) (hk : k = w.heap.size) : (w.alloc o).heap[k]? = some o := by
  subst hk
  exact heap_alloc_new w o

/-- One port in memory of its own. -/
theorem portsAt_one (b q g : Nat) (w : World) (s : ByteArray) (x z : Int) (y : ByteArray) (hg : b ≤ g)
    (h1 : w.heap[q]? = some (.cells #[.int .i64 x, .string y] 72 (0, 0)))
    (h2 : w.heap[g]? = some (.cells #[.string s, .pointer (some ⟨q, 0, none⟩), .int .i64 z] 70 (0, 0))) :
    PortsAt b w (.slice (some ⟨g, 0, none⟩) 1 1) [(s, q, z)] := by
  refine ⟨⟨rfl, .inr ⟨g, 1, _, rfl, hg, h2, Nat.le_refl _, by decide, rfl, rfl⟩⟩, ?_⟩
  intro t ht
  simp at ht
  subst ht
  exact ⟨x, y, h1⟩

/-- The round's append: a box, the row of one port, then the append. -/
theorem portsAt_snoc {b : Nat} {w w' : World} {v v' : Value} {L : List (ByteArray × Nat × Int)} {s y : ByteArray} {x z : Int} {o : Obj}
    (h : PortsAt b w v L)
    (hown : w'.ownsRow b 70 3 v' (L.length + 1) (L.flatMap row3 ++ row3 (s, w.heap.size, z)))
    (hg : ((w.alloc (.cells #[.int .i64 x, .string y] 72)).alloc o).grownBy w' v.ownBlock) :
    PortsAt b w' v' (L ++ [(s, w.heap.size, z)]) := by
  refine ⟨by simpa using hown, ?_⟩
  have keep : ∀ q, Box ((w.alloc (.cells #[.int .i64 x, .string y] 72)).alloc o) q → Box w' q := by
    intro q hq
    obtain ⟨x', y', hq⟩ := hq
    refine ⟨x', y', (hg.block q (lt_of_block hq) ?_).trans hq⟩
    intro e
    rcases h.1.2 with ⟨rfl, _⟩ | ⟨g, cap, cur, rfl, hb, hgg, _⟩
    · simp [Value.ownBlock] at e
    · simp [Value.ownBlock] at e
      subst e
      have hlt := lt_of_block hgg
      rw [Below.heap_alloc _ _ _ (by simp; omega), Below.heap_alloc _ _ _ hlt, hgg] at hq
      simp at hq
  intro t ht
  rcases List.mem_append.1 ht with ht | ht
  · exact keep _ (((h.2 t ht).alloc _).alloc _)
  · simp at ht
    subst ht
    refine keep _ ⟨x, y, ?_⟩
    rw [Below.heap_alloc _ _ _ (by simp)]
    exact heap_alloc_new w _

theorem table_snoc {k q : Nat} {z : Int} {p : ByteArray} {L : List (ByteArray × Nat × Int)} (h : k < 3) (hp : p = protoTable.getD k ByteArray.empty) (hL : L.map (·.1) = protoTable.take k) :
    (L ++ [(p, q, z)]).map (·.1) = protoTable.take (k + 1) := by
  rw [List.map_append, hL, hp]
  match k, h with
  | 0, _ => rfl
  | 1, _ => rfl
  | 2, _ => rfl

end Go.Proofs.Qxb6001295aMods
