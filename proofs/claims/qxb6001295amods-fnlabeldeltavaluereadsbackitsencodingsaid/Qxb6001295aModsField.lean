import Derived.Test.Qxb6001295aModsCut
namespace Go.Proofs.Qxb6001295aMods
open Go.RowKit
set_option linter.unusedVariables false

theorem bytes_ext {a b : ByteArray} (h : a.data.toList = b.data.toList) : a = b := by
  cases a; cases b
  simp only [ByteArray.mk.injEq]
  exact Array.ext' h

/-- A field and what follows it. -/
def FieldOut (e : Ending) (v : ByteArray) (rest : List UInt8) : Prop := ∃ r : ByteArray, e = .returned (.tuple #[.string v, .string r]) ∧ r.data.toList = rest

theorem field_ret {a b v : ByteArray} (h : a = v) : Ending.returned (.tuple #[.string a, .string b]) = .returned (.tuple #[.string v, .string b]) := by rw [h]

set_option maxRecDepth 100000 in
set_option maxHeartbeats 800000 in
theorem field_any (s v : ByteArray) (rest : List UInt8) (w : World) (hs : s.data.toList = uv v.size ++ (v.data.toList ++ rest)) (hz : s.size ≤ 1099511627776) (hv : v.size ≤ 1048576) :
    Calls Trym.prog 38 #[.string s] w fun e w' => FieldOut e v rest ∧ Below w.heap.size w w' := by
  go_enter Trym.func38, Trym.ntmps38
  go_wp2_with fail
  refine (cut_any s v.size (v.data.toList ++ rest) w (by omega) hs hz).mono ?_
  rintro e w1 ⟨⟨r, rfl, hr⟩, hb⟩
  have hrl : r.size = v.size + rest.length := by
    have := congrArg List.length hr
    simpa using this
  have h1 : (v.size : Int) ≤ (r.size : Int) := by omega
  have e1 : r.extract 0 v.size = v := bytes_ext (by
    simp only [ByteArray.data_extract, Array.toList_extract, List.extract_eq_take_drop, hr]
    simp)
  have e2 : (r.extract v.size r.size).data.toList = rest := by rw [extract_list, hr]; simp
  have E1 : Hid (r.extract 0 v.size = v) := e1
  have E2 : Hid ((r.extract v.size r.size).data.toList = rest) := e2
  clear e1 e2 hr
  have hrl' : r.size ≤ 1099511627776 := by
    have := congrArg List.length hs
    simp at this
    omega
  clear hrl hs
  go_wp2
  go_quiet (fail)
  go_wp2
  go_ret2
  exact ⟨⟨r.extract v.size r.size, field_ret E1.out, E2.out⟩, below_drewN hb _⟩

end Go.Proofs.Qxb6001295aMods
