import Derived.Test.Qxb6001295aModsField
namespace Go.Proofs.Qxb6001295aMods
open Go.RowKit
set_option linter.unusedVariables false

/-- A pair as it is written, and a list of them. -/
def encP (p : Nat × ByteArray) : List UInt8 := uv p.1 ++ (uv p.2.size ++ p.2.data.toList)
def encL (L : List (Nat × ByteArray)) : List UInt8 := L.flatMap encP
/-- A key as an int. -/
def keyI (k : Nat) : Int := wrap64 (k : Int)
/-- The value of the first pair whose key is i. -/
def findV (L : List (Nat × ByteArray)) (i : Int) : Option ByteArray := (L.find? (fun p => keyI p.1 == i)).map (·.2)
def Fits (L : List (Nat × ByteArray)) : Prop := ∀ p ∈ L, p.1 < 18446744073709551616 ∧ p.2.size ≤ 1048576

theorem encL_cons (p : Nat × ByteArray) (L : List (Nat × ByteArray)) : encL (p :: L) = uv p.1 ++ (uv p.2.size ++ (p.2.data.toList ++ encL L)) := by simp [encL, encP]
theorem findV_hit {p : Nat × ByteArray} {L : List (Nat × ByteArray)} {i : Int} (h : (keyI p.1 == i) = true) : findV (p :: L) i = some p.2 := by simp [findV, h]
theorem findV_miss {p : Nat × ByteArray} {L : List (Nat × ByteArray)} {i : Int} (h : (keyI p.1 == i) = false) : findV (p :: L) i = findV L i := by simp [findV, h]

def strLen : Value → Nat | .string s => s.size | _ => 0

/-- What both sides of the law hand back. -/
def FindOut (e : Ending) (f : Option ByteArray) : Prop := e = .returned (.tuple #[.string (f.getD ⟨#[]⟩), .bool f.isSome])

theorem isEmpty_of_nil {r : ByteArray} (h : r.data.toList = []) : r.toList.isEmpty = true := by rw [ByteArray.toList_eq, h]; rfl
theorem isEmpty_of_cons {r : ByteArray} (h : r.data.toList ≠ []) : r.toList.isEmpty = false := by
  rw [ByteArray.toList_eq]
  cases h2 : r.data.toList with
  | nil => exact absurd h2 h
  | cons a l => rfl

set_option maxRecDepth 100000 in
set_option maxHeartbeats 800000 in
/-- (labelDelta).value over a delta that is well written. -/
theorem value_any (d : ByteArray) (i : Int) (L : List (Nat × ByteArray)) (w : World) (hd : d.data.toList = encL L) (hL : Fits L) (hz : d.size ≤ 1099511627776) :
    Calls Trym.prog 34 #[.string d, .int .i64 i] w fun e w' => FindOut e (findV L i) ∧ Below w.heap.size w w' := by
  have HL : Hid (Fits L) := hL
  have HD : Hid (d.data.toList = encL L) := hd
  clear hL hd
  go_enter Trym.func34, Trym.ntmps34
  go_wp2
  go_loopw [6] (fun s wr => ∃ (r : ByteArray) (M : List (Nat × ByteArray)), s = .string r ∧ r.data.toList = encL M ∧ Fits M ∧ findV L i = findV M i ∧ r.size ≤ 1099511627776 ∧ Below w.heap.size w wr) (fun s _ => strLen s)
  case atStart => exact ⟨d, L, rfl, HD.out, HL.out, rfl, hz, Below.refl _ _⟩
  case round =>
    clear hz HL HD
    obtain ⟨r, M, rfl, hr, hM, hf, hz, hb⟩ := hrel
    have HF : Hid (findV L i = findV M i) := hf
    have HM : Hid (Fits M) := hM
    clear hf hM
    cases M with
    | nil =>
      have he := isEmpty_of_nil hr
      clear hr
      go_wp2
      go_ret2
      refine ⟨?_, hb⟩
      rw [HF.out]
      rfl
    | cons p M =>
      rw [encL_cons] at hr
      have he := isEmpty_of_cons (r := r) (by rw [hr]; have := (uv_len p.1).1; intro e; rw [List.append_eq_nil_iff] at e; rw [e.1] at this; simp at this)
      have hp := HM.out p (List.mem_cons_self ..)
      have HR : Hid (r.data.toList = uv p.1 ++ (uv p.2.size ++ (p.2.data.toList ++ encL M))) := hr
      clear hr
      go_wp2_with fail
      refine (cut_any r p.1 _ wr hp.1 HR.out hz).mono ?_
      rintro e w1 ⟨⟨r1, rfl, hr1⟩, hb1⟩
      have l1 : r1.size ≤ r.size := by
        have a := congrArg List.length HR.out
        have b := congrArg List.length hr1
        simp at a b
        omega
      have HR1 : Hid (r1.data.toList = uv p.2.size ++ (p.2.data.toList ++ encL M)) := hr1
      clear hr1
      go_wp2_with fail
      refine (field_any r1 p.2 _ w1 HR1.out (by omega) hp.2).mono ?_
      rintro e w2 ⟨⟨r2, rfl, hr2⟩, hb2⟩
      have l2 : r2.size < r.size := by
        have a := congrArg List.length HR1.out
        have b := congrArg List.length hr2
        have c := (uv_len p.2.size).1
        simp at a b
        omega
      have HR2 : Hid (r2.data.toList = encL M) := hr2
      clear hr2
      have hbt : Below w.heap.size w w2 := (hb.trans (hb1.mono hb.size)).trans (hb2.mono (hb.trans (hb1.mono hb.size)).size)
      go_wp2
      · have hk : (wrap64 (p.1 : Int) == i) = true := by assumption
        go_ret2
        refine ⟨?_, hbt⟩
        rw [HF.out, findV_hit hk]
        rfl
      · have hk : (wrap64 (p.1 : Int) == i) = false := by assumption
        go_roundw
        case rel => exact ⟨r2, M, rfl, HR2.out, fun x hx => HM.out x (List.mem_cons_of_mem _ hx), by rw [HF.out, findV_miss hk], by omega, hbt⟩
        case measure => exact l2

set_option maxHeartbeats 400000 in
theorem zzValue_any (d : ByteArray) (i : Int) (L : List (Nat × ByteArray)) (w : World) (hd : d.data.toList = encL L) (hL : Fits L) (hz : d.size ≤ 1099511627776) :
    Calls Trym.prog 14 #[.string d, .int .i64 i] w fun e w' => FindOut e (findV L i) ∧ Below w.heap.size w w' := by
  go_enter Trym.func14, Trym.ntmps14
  go_wp2_with fail
  refine (value_any d i L w hd hL hz).mono ?_
  rintro e w1 ⟨he, hb⟩
  unfold FindOut at he
  subst he
  clear hd hL hz
  go_wp2
  go_ret2
  exact ⟨rfl, hb⟩

end Go.Proofs.Qxb6001295aMods
