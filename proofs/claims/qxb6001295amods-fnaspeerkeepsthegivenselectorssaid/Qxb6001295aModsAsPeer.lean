import Derived.Test.Qxb6001295aModsPeerSmall
import Derived.RegionTactic
import Derived.ChangeAlike
namespace Go.Proofs.Qxb6001295aMods
open Go.RowKit
set_option linter.unusedVariables false

/-- Refused: an empty peer and a reason. Taken: the two selectors and no reason. (Names of their own: the walk does not look into them.) -/
def Refused (e : Ending) : Prop := ∃ r : ByteArray, e = .returned (.tuple #[.agg #[.pointer none, .pointer none, .pointer none], .string r]) ∧ r.toList.isEmpty = false
def Taken (e : Ending) (p q : Option Addr) : Prop := e = .returned (.tuple #[.agg #[.pointer p, .pointer q, .pointer none], .string ⟨#[]⟩])

/-- The three cells of a namespacedPeer. -/
structure NpAt (w : World) (b : Nat) (q : Option Addr) (x5 : Option Addr) (l5 c5 : Nat) (x6 : Option Addr) (l6 c6 : Nat) : Prop where
  lt : b < w.heap.size
  k0 : w.cell? ⟨b, 0, none⟩ = some (.pointer q)
  k1 : w.cell? ⟨b, 1, none⟩ = some (.slice x5 l5 c5)
  k2 : w.cell? ⟨b, 2, none⟩ = some (.slice x6 l6 c6)

def noField : ByteArray := ⟨#[110, 111, 32, 102, 105, 101, 108, 100, 32, 107, 110, 111, 119, 110]⟩
def saysSame : ByteArray := ⟨#[115, 97, 109, 101, 76, 97, 98, 101, 108, 115]⟩
def saysNotSame : ByteArray := ⟨#[110, 111, 116, 83, 97, 109, 101, 76, 97, 98, 101, 108, 115]⟩

set_option maxRecDepth 100000 in
set_option maxHeartbeats 800000 in
theorem asPeer_none (w : World) :
    Calls Trym.prog 36 #[.agg #[.pointer none, .pointer none]] w fun e w' => Refused e ∧ Below w.heap.size w w' := by
  go_enter Trym.func36, Trym.ntmps36
  go_wp2
  exact bodyPost_ret (v := .tuple #[.agg #[.pointer none, .pointer none, .pointer none], .string noField]) (by simp [results, Trym.results36, go_sem, noField]) rfl ⟨⟨_, rfl, by decide +kernel⟩, (((Below.refl _ _).alloc (Nat.le_refl _) _).alloc (by simp) _).alloc (by simp; omega) _⟩

set_option maxRecDepth 100000 in
set_option maxHeartbeats 800000 in
theorem asPeer_ns_same (b : Nat) (p1 : Option Addr) (q : Option Addr) (x5 : Option Addr) (l5 c5 : Nat) (x6 : Option Addr) (l6 c6 : Nat) (w : World) (h : NpAt w b q x5 l5 c5 x6 l6 c6) (h5 : 0 < l5) :
    Calls Trym.prog 36 #[.agg #[.pointer (some ⟨b, 0, none⟩), .pointer p1]] w fun e w' => Refused e ∧ Below w.heap.size w w' := by
  obtain ⟨hb, k0, k1, k2⟩ := h
  have hb1 : b < w.heap.size + 1 := by omega
  have hb2 : b < w.heap.size + 1 + 1 := by omega
  have hb3 : b < w.heap.size + 1 + 1 + 1 := by omega
  go_enter Trym.func36, Trym.ntmps36
  go_wp2
  exact bodyPost_ret (v := .tuple #[.agg #[.pointer none, .pointer none, .pointer none], .string saysSame]) (by simp [results, Trym.results36, go_sem, saysSame]) rfl ⟨⟨_, rfl, by decide +kernel⟩, (((Below.refl _ _).alloc (Nat.le_refl _) _).alloc (by simp) _).alloc (by simp; omega) _⟩

set_option maxRecDepth 100000 in
set_option maxHeartbeats 800000 in
theorem asPeer_ns_notsame (b : Nat) (p1 : Option Addr) (q : Option Addr) (x5 : Option Addr) (l5 c5 : Nat) (x6 : Option Addr) (l6 c6 : Nat) (w : World) (h : NpAt w b q x5 l5 c5 x6 l6 c6) (h5 : l5 = 0) (h6 : 0 < l6) :
    Calls Trym.prog 36 #[.agg #[.pointer (some ⟨b, 0, none⟩), .pointer p1]] w fun e w' => Refused e ∧ Below w.heap.size w w' := by
  subst h5
  obtain ⟨hb, k0, k1, k2⟩ := h
  have hb1 : b < w.heap.size + 1 := by omega
  have hb2 : b < w.heap.size + 1 + 1 := by omega
  have hb3 : b < w.heap.size + 1 + 1 + 1 := by omega
  go_enter Trym.func36, Trym.ntmps36
  go_wp2
  exact bodyPost_ret (v := .tuple #[.agg #[.pointer none, .pointer none, .pointer none], .string saysNotSame]) (by simp [results, Trym.results36, go_sem, saysNotSame]) rfl ⟨⟨_, rfl, by decide +kernel⟩, (((Below.refl _ _).alloc (Nat.le_refl _) _).alloc (by simp) _).alloc (by simp; omega) _⟩

set_option maxRecDepth 100000 in
set_option maxHeartbeats 800000 in
theorem asPeer_ns_nosel (b : Nat) (p1 : Option Addr) (q : Option Addr) (x5 : Option Addr) (l5 c5 : Nat) (x6 : Option Addr) (l6 c6 : Nat) (w : World) (h : NpAt w b q x5 l5 c5 x6 l6 c6) (h5 : l5 = 0) (h6 : l6 = 0) (hq : q = none) :
    Calls Trym.prog 36 #[.agg #[.pointer (some ⟨b, 0, none⟩), .pointer p1]] w fun e w' => Refused e ∧ Below w.heap.size w w' := by
  subst h5 h6 hq
  obtain ⟨hb, k0, k1, k2⟩ := h
  have hb1 : b < w.heap.size + 1 := by omega
  have hb2 : b < w.heap.size + 1 + 1 := by omega
  have hb3 : b < w.heap.size + 1 + 1 + 1 := by omega
  go_enter Trym.func36, Trym.ntmps36
  go_wp2
  exact bodyPost_ret (v := .tuple #[.agg #[.pointer none, .pointer none, .pointer none], .string noField]) (by simp [results, Trym.results36, go_sem, noField]) rfl ⟨⟨_, rfl, by decide +kernel⟩, (((Below.refl _ _).alloc (Nat.le_refl _) _).alloc (by simp) _).alloc (by simp; omega) _⟩

set_option maxRecDepth 100000 in
set_option maxHeartbeats 800000 in
theorem asPeer_ns_sel (b : Nat) (p1 : Option Addr) (q : Option Addr) (x5 : Option Addr) (l5 c5 : Nat) (x6 : Option Addr) (l6 c6 : Nat) (w : World) (h : NpAt w b q x5 l5 c5 x6 l6 c6) (h5 : l5 = 0) (h6 : l6 = 0) (qa : Addr) (hq : q = some qa) :
    Calls Trym.prog 36 #[.agg #[.pointer (some ⟨b, 0, none⟩), .pointer p1]] w fun e w' => Taken e none q ∧ Below w.heap.size w w' := by
  subst h5 h6 hq
  obtain ⟨hb, k0, k1, k2⟩ := h
  have hb1 : b < w.heap.size + 1 := by omega
  have hb2 : b < w.heap.size + 1 + 1 := by omega
  have hb3 : b < w.heap.size + 1 + 1 + 1 := by omega
  go_enter Trym.func36, Trym.ntmps36
  go_wp2
  exact bodyPost_ret (v := .tuple #[.agg #[.pointer none, .pointer (some qa), .pointer none], .string ⟨#[]⟩]) (by simp [results, Trym.results36, go_sem]) rfl ⟨rfl, (((Below.refl _ _).alloc (Nat.le_refl _) _).alloc (by simp) _).alloc (by simp; omega) _⟩

set_option maxRecDepth 100000 in
set_option maxHeartbeats 800000 in
theorem asPeer_pods_same (b : Nat) (q : Option Addr) (x5 : Option Addr) (l5 c5 : Nat) (x6 : Option Addr) (l6 c6 : Nat) (w : World) (h : NpAt w b q x5 l5 c5 x6 l6 c6) (h5 : 0 < l5) :
    Calls Trym.prog 36 #[.agg #[.pointer none, .pointer (some ⟨b, 0, none⟩)]] w fun e w' => Refused e ∧ Below w.heap.size w w' := by
  obtain ⟨hb, k0, k1, k2⟩ := h
  have hb1 : b < w.heap.size + 1 := by omega
  have hb2 : b < w.heap.size + 1 + 1 := by omega
  have hb3 : b < w.heap.size + 1 + 1 + 1 := by omega
  go_enter Trym.func36, Trym.ntmps36
  go_wp2
  go_region
  go_wp2
  exact bodyPost_ret (v := .tuple #[.agg #[.pointer none, .pointer none, .pointer none], .string saysSame]) (by simp [results, Trym.results36, go_sem, saysSame]) rfl ⟨⟨_, rfl, by decide +kernel⟩, ((((Below.refl _ _).alloc (Nat.le_refl _) _).alloc (by simp) _).alloc (by simp; omega) _).drew⟩

set_option maxRecDepth 100000 in
set_option maxHeartbeats 800000 in
theorem asPeer_pods_notsame (b : Nat) (q : Option Addr) (x5 : Option Addr) (l5 c5 : Nat) (x6 : Option Addr) (l6 c6 : Nat) (w : World) (h : NpAt w b q x5 l5 c5 x6 l6 c6) (h5 : l5 = 0) (h6 : 0 < l6) :
    Calls Trym.prog 36 #[.agg #[.pointer none, .pointer (some ⟨b, 0, none⟩)]] w fun e w' => Refused e ∧ Below w.heap.size w w' := by
  subst h5
  obtain ⟨hb, k0, k1, k2⟩ := h
  have hb1 : b < w.heap.size + 1 := by omega
  have hb2 : b < w.heap.size + 1 + 1 := by omega
  have hb3 : b < w.heap.size + 1 + 1 + 1 := by omega
  go_enter Trym.func36, Trym.ntmps36
  go_wp2
  go_region
  go_wp2
  exact bodyPost_ret (v := .tuple #[.agg #[.pointer none, .pointer none, .pointer none], .string saysNotSame]) (by simp [results, Trym.results36, go_sem, saysNotSame]) rfl ⟨⟨_, rfl, by decide +kernel⟩, ((((Below.refl _ _).alloc (Nat.le_refl _) _).alloc (by simp) _).alloc (by simp; omega) _).drew⟩

set_option maxRecDepth 100000 in
set_option maxHeartbeats 800000 in
theorem asPeer_pods_nosel (b : Nat) (q : Option Addr) (x5 : Option Addr) (l5 c5 : Nat) (x6 : Option Addr) (l6 c6 : Nat) (w : World) (h : NpAt w b q x5 l5 c5 x6 l6 c6) (h5 : l5 = 0) (h6 : l6 = 0) (hq : q = none) :
    Calls Trym.prog 36 #[.agg #[.pointer none, .pointer (some ⟨b, 0, none⟩)]] w fun e w' => Refused e ∧ Below w.heap.size w w' := by
  subst h5 h6 hq
  obtain ⟨hb, k0, k1, k2⟩ := h
  have hb1 : b < w.heap.size + 1 := by omega
  have hb2 : b < w.heap.size + 1 + 1 := by omega
  have hb3 : b < w.heap.size + 1 + 1 + 1 := by omega
  go_enter Trym.func36, Trym.ntmps36
  go_wp2
  go_region
  go_wp2
  exact bodyPost_ret (v := .tuple #[.agg #[.pointer none, .pointer none, .pointer none], .string noField]) (by simp [results, Trym.results36, go_sem, noField]) rfl ⟨⟨_, rfl, by decide +kernel⟩, ((((Below.refl _ _).alloc (Nat.le_refl _) _).alloc (by simp) _).alloc (by simp; omega) _).drew⟩

set_option maxRecDepth 100000 in
set_option maxHeartbeats 800000 in
theorem asPeer_pods_sel (b : Nat) (q : Option Addr) (x5 : Option Addr) (l5 c5 : Nat) (x6 : Option Addr) (l6 c6 : Nat) (w : World) (h : NpAt w b q x5 l5 c5 x6 l6 c6) (h5 : l5 = 0) (h6 : l6 = 0) (qa : Addr) (hq : q = some qa) :
    Calls Trym.prog 36 #[.agg #[.pointer none, .pointer (some ⟨b, 0, none⟩)]] w fun e w' => Taken e (some ⟨b, 3, none⟩) q ∧ Below w.heap.size w w' := by
  subst h5 h6 hq
  obtain ⟨hb, k0, k1, k2⟩ := h
  have hb1 : b < w.heap.size + 1 := by omega
  have hb2 : b < w.heap.size + 1 + 1 := by omega
  have hb3 : b < w.heap.size + 1 + 1 + 1 := by omega
  go_enter Trym.func36, Trym.ntmps36
  go_wp2
  go_region
  go_wp2
  exact bodyPost_ret (v := .tuple #[.agg #[.pointer (some ⟨b, 3, none⟩), .pointer (some qa), .pointer none], .string ⟨#[]⟩]) (by simp [results, Trym.results36, go_sem]) rfl ⟨rfl, ((((Below.refl _ _).alloc (Nat.le_refl _) _).alloc (by simp) _).alloc (by simp; omega) _).drew⟩

/-- asPeer at the ns form. -/
theorem asPeer_ns (b : Nat) (p1 : Option Addr) (q : Option Addr) (x5 : Option Addr) (l5 c5 : Nat) (x6 : Option Addr) (l6 c6 : Nat) (w : World) (h : NpAt w b q x5 l5 c5 x6 l6 c6) :
    Calls Trym.prog 36 #[.agg #[.pointer (some ⟨b, 0, none⟩), .pointer p1]] w fun e w' => ((if l5 = 0 ∧ l6 = 0 ∧ q ≠ none then Taken e none q else Refused e)) ∧ Below w.heap.size w w' := by
  by_cases h5 : l5 = 0
  · by_cases h6 : l6 = 0
    · by_cases hq : q = none
      · refine (asPeer_ns_nosel b p1 q x5 l5 c5 x6 l6 c6 w h h5 h6 hq).mono fun e w' h' => ⟨?_, h'.2⟩
        rw [if_neg (fun c => c.2.2 hq)]
        exact h'.1
      · obtain ⟨qa, hqa⟩ : ∃ qa, q = some qa := by
          cases q with
          | none => exact absurd rfl hq
          | some qa => exact ⟨qa, rfl⟩
        refine (asPeer_ns_sel b p1 q x5 l5 c5 x6 l6 c6 w h h5 h6 qa hqa).mono fun e w' h' => ⟨?_, h'.2⟩
        rw [if_pos ⟨h5, h6, hq⟩]
        exact h'.1
    · refine (asPeer_ns_notsame b p1 q x5 l5 c5 x6 l6 c6 w h h5 (by omega)).mono fun e w' h' => ⟨?_, h'.2⟩
      rw [if_neg (by omega)]
      exact h'.1
  · refine (asPeer_ns_same b p1 q x5 l5 c5 x6 l6 c6 w h (by omega)).mono fun e w' h' => ⟨?_, h'.2⟩
    rw [if_neg (by omega)]
    exact h'.1

/-- asPeer at the pods form. -/
theorem asPeer_pods (b : Nat) (q : Option Addr) (x5 : Option Addr) (l5 c5 : Nat) (x6 : Option Addr) (l6 c6 : Nat) (w : World) (h : NpAt w b q x5 l5 c5 x6 l6 c6) :
    Calls Trym.prog 36 #[.agg #[.pointer none, .pointer (some ⟨b, 0, none⟩)]] w fun e w' => ((if l5 = 0 ∧ l6 = 0 ∧ q ≠ none then Taken e (some ⟨b, 3, none⟩) q else Refused e)) ∧ Below w.heap.size w w' := by
  by_cases h5 : l5 = 0
  · by_cases h6 : l6 = 0
    · by_cases hq : q = none
      · refine (asPeer_pods_nosel b q x5 l5 c5 x6 l6 c6 w h h5 h6 hq).mono fun e w' h' => ⟨?_, h'.2⟩
        rw [if_neg (fun c => c.2.2 hq)]
        exact h'.1
      · obtain ⟨qa, hqa⟩ : ∃ qa, q = some qa := by
          cases q with
          | none => exact absurd rfl hq
          | some qa => exact ⟨qa, rfl⟩
        refine (asPeer_pods_sel b q x5 l5 c5 x6 l6 c6 w h h5 h6 qa hqa).mono fun e w' h' => ⟨?_, h'.2⟩
        rw [if_pos ⟨h5, h6, hq⟩]
        exact h'.1
    · refine (asPeer_pods_notsame b q x5 l5 c5 x6 l6 c6 w h h5 (by omega)).mono fun e w' h' => ⟨?_, h'.2⟩
      rw [if_neg (by omega)]
      exact h'.1
  · refine (asPeer_pods_same b q x5 l5 c5 x6 l6 c6 w h (by omega)).mono fun e w' h' => ⟨?_, h'.2⟩
    rw [if_neg (by omega)]
    exact h'.1

end Go.Proofs.Qxb6001295aMods
