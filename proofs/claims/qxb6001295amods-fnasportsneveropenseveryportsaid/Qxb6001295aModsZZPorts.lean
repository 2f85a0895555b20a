import Derived.Test.Qxb6001295aModsPorts
import Derived.Test.Qxb6001295aModsPortRows
import Derived.Deep.DeepCutAuto
namespace Go.Proofs.Qxb6001295aMods
open Go.RowKit
set_option linter.unusedVariables false

theorem Trym.info9 : (Trym.prog.info? 9).map (fun i => (i.zero, i.size, i.bytes)) = some (some (.string ⟨#[]⟩), 1, 16) := by kernel_rfl
theorem Trym.info4 : (Trym.prog.info? 4).map (fun i => (i.zero, i.size, i.bytes)) = some (some (.bool false), 1, 1) := by kernel_rfl
theorem Trym.info3 : (Trym.prog.info? 3).map (fun i => (i.zero, i.size, i.bytes)) = some (some (.int .i64 0), 1, 8) := by kernel_rfl

theorem asPorts_any (B : Nat) (w : World) (a0 a3 a7 : Bool) (s1 s4 s8 : ByteArray) (n2 n5 n6 : Int) (p0 p1 p2 : Option Addr)
    (h0 : Fld B w a0 [.string s1, .int .i64 n2] p0) (h1 : Fld B w a3 [.string s4, .int .i64 n5, .int .i64 n6] p1) (h2 : Fld B w a7 [.string s8] p2) :
    Calls Trym.prog 35 #[.agg #[.pointer p0, .pointer p1, .pointer p2]] w fun e w' => ∃ v L, e = .returned v ∧ L.map (·.1) = protosOf a0 s1 a3 s4 a7 ∧ PortsAt w.heap.size w' v L ∧ Below w.heap.size w w' := by
  rcases h0 with ⟨rfl, rfl⟩ | ⟨rfl, b, rfl, _, hb, hc⟩
  · rcases h1 with ⟨rfl, rfl⟩ | ⟨rfl, b, rfl, _, hb, hc⟩
    · rcases h2 with ⟨rfl, rfl⟩ | ⟨rfl, b, rfl, _, hb, hc⟩
      · exact asPorts_none w
      · exact asPorts_name b s8 w hb (hc 0 _ rfl)
    · exact asPorts_range b s4 n5 n6 p2 w hb (hc 0 _ rfl) (hc 1 _ rfl) (hc 2 _ rfl)
  · exact asPorts_num b s1 n2 p1 p2 w hb (hc 0 _ rfl) (hc 1 _ rfl)

set_option maxRecDepth 100000 in
set_option maxHeartbeats 800000 in
theorem zzAsPorts_any (a0 : Bool) (a1 : ByteArray) (a2 : Int) (a3 : Bool) (a4 : ByteArray) (a5 : Int) (a6 : Int) (a7 : Bool) (a8 : ByteArray) (w : World) :
    Calls Trym.prog 19 #[.bool a0, .string a1, .int .i64 a2, .bool a3, .string a4, .int .i64 a5, .int .i64 a6, .bool a7, .string a8] w fun e w' =>
      ∃ v0 v1 v2 v3 v4, e = .returned (.tuple #[v0, v1, v2, v3, v4]) ∧ Five w.heap.size w' v0 v1 v2 v3 v4 (protosOf a0 a1 a3 a4 a7) ∧ Below w.heap.size w w' := by
  obtain ⟨i9, i9a, i9b, i9c, i9d⟩ := info_parts Trym.info9
  obtain ⟨i4, i4a, i4b, i4c, i4d⟩ := info_parts Trym.info4
  obtain ⟨i3, i3a, i3b, i3c, i3d⟩ := info_parts Trym.info3
  go_enter Trym.func19, Trym.ntmps19
  go_upto_if 27 with fail
  go_cut [] (fun wc => ∃ p0, Fld w.heap.size wc a0 [.string a1, .int .i64 a2] p0 ∧ Hd w.heap.size wc p0 none none ∧ Below w.heap.size w wc)
  case first =>
    cases a0
    · go_wp2
      go_meet
      exact ⟨none, .inl ⟨rfl, rfl⟩, heap_alloc_new _ _, (Below.refl _ _).alloc (Nat.le_refl _) _⟩
    · go_wp2
      go_meet
      exact ⟨some ⟨w.heap.size + 1, 0, none⟩, Fld.new' (w.alloc _) [.string a1, .int .i64 a2] 64 (Nat.lt_succ_self _) (by simp), (Below.heap_alloc _ _ _ (by simp)).trans (heap_alloc_new _ _), ((Below.refl _ _).alloc (Nat.le_refl _) _).alloc (by simp) _⟩
  case rest =>
    obtain ⟨p0, hf0, hd, hb⟩ := hcut
    have hlt := hd.lt
    have k1 := hd.c1
    have z1 := hd.free 1
    have hsz := hb.size
    go_upto_if 33 with fail
    go_cut [] (fun wc => ∃ p0 p1, Fld w.heap.size wc a0 [.string a1, .int .i64 a2] p0 ∧ Fld w.heap.size wc a3 [.string a4, .int .i64 a5, .int .i64 a6] p1 ∧ Hd w.heap.size wc p0 p1 none ∧ Below w.heap.size w wc)
    case first =>
      cases a3
      · go_wp2
        go_meet
        exact ⟨p0, none, hf0, .inl ⟨rfl, rfl⟩, hd, hb⟩
      · go_wp2
        go_meet
        exact ⟨p0, some ⟨wc.heap.size, 0, none⟩, hf0.after _ _, Fld.new' (wc.setCell _ _) [.string a4, .int .i64 a5, .int .i64 a6] 65 hlt (by simp), (hd.set1 _).alloc _, (hb.setCell (Nat.le_refl _) _).alloc (by simpa using hsz) _⟩
    case rest =>
      clear k1 z1 hlt hf0 hd hb hsz
      obtain ⟨p0, p1, hf0, hf1, hd, hb⟩ := hcut
      have hlt := hd.lt
      have k2 := hd.c2
      have z2 := hd.free 2
      have hsz := hb.size
      go_upto_if 40 with fail
      go_cut [] (fun wc => ∃ p0 p1 p2, Fld w.heap.size wc a0 [.string a1, .int .i64 a2] p0 ∧ Fld w.heap.size wc a3 [.string a4, .int .i64 a5, .int .i64 a6] p1 ∧ Fld w.heap.size wc a7 [.string a8] p2 ∧ Hd w.heap.size wc p0 p1 p2 ∧ Below w.heap.size w wc)
      case first =>
        cases a7
        · go_wp2
          go_meet
          exact ⟨p0, p1, none, hf0, hf1, .inl ⟨rfl, rfl⟩, hd, hb⟩
        · go_wp2
          go_meet
          exact ⟨p0, p1, some ⟨wc.heap.size, 0, none⟩, hf0.after _ _, hf1.after _ _, Fld.new' (wc.setCell _ _) [.string a8] 9 hlt (by simp), (hd.set2 _).alloc _, (hb.setCell (Nat.le_refl _) _).alloc (by simpa using hsz) _⟩
      case rest =>
        clear k2 z2 hlt hf0 hf1 hd hb hsz
        obtain ⟨p0, p1, p2, hf0, hf1, hf2, hd, hb⟩ := hcut
        have k0 := hd.c0
        have k1 := hd.c1
        have k2 := hd.c2
        go_wp2_with fail
        refine (asPorts_any w.heap.size wc a0 a3 a7 a1 a4 a8 a2 a5 a6 p0 p1 p2 hf0 hf1 hf2).mono ?_
        rintro e w2 ⟨v, L, rfl, hL, hP, hb2⟩
        obtain ⟨ao, cap, rfl, hcells⟩ := hP.view
        have hn3 : L.length ≤ 3 := by have := congrArg List.length hL; rw [List.length_map] at this; rw [this]; exact protosOf_le _ _ _ _ _
        have HL : Hid (L.map (·.1) = protosOf a0 a1 a3 a4 a7) := hL
        have HC : Hid _ := hcells
        have hbw : Below w.heap.size w w2 := hb.trans (hb2.mono hb.size)
        clear hf0 hf1 hf2 hd hb k0 k1 k2 hL hP hb2 hcells
        go_wp2_with fail
        go_loopw [18, 19, 20, 21, 22, 26] (fun v0 v1 v2 v3 v4 i wr => ∃ k : Nat, k ≤ L.length ∧ i = .int .i64 k ∧ Five w2.heap.size wr v0 v1 v2 v3 v4 ((L.map (·.1)).take k) ∧ Below w2.heap.size w2 wr)
          (fun _ _ _ _ _ i _ => L.length - (intOf i).toNat)
        case atStart => exact ⟨0, Nat.zero_le _, rfl, five_nil _ _, Below.refl _ _⟩
        case round =>
          obtain ⟨k, hk, rfl, hF, hnx⟩ := hrel
          by_cases hlt : k < L.length
          · obtain ⟨g, x, y, rfl, hg, hq, c0, c1, c2, d0, d1⟩ := HC.out k L[k] (by simp)
            obtain ⟨⟨s, q, z⟩, ht⟩ : ∃ t, t = L[k] := ⟨_, rfl⟩
            rw [← ht] at hq c0 c1 c2 d0 d1
            simp only at hq c0 c1 c2 d0 d1
            have HT : Hid ((s, q, z) = L[k]) := ht
            clear ht
            have hcc : ∀ b o, b < w2.heap.size → wr.cell? ⟨b, o, none⟩ = w2.cell? ⟨b, o, none⟩ := fun b o h => hnx.cell (p := ⟨b, o, none⟩) h
            have hs2 := hnx.size
            have hln : ((L.map (·.1)).take k).length = k := by simp; omega
            obtain ⟨o0, o1, ⟨x2, o2⟩, ⟨x3, o3⟩, ⟨x4, o4⟩, a03, a24⟩ := hF
            rw [hln] at o0 o1 o2 o3 o4
            clear hln
            have a30 : Parted _ _ := a03.symm o3
            have a42 : Parted _ _ := a24.symm o4
            go_wp2_with (first | (at_builtin; (refine wpList_append_own_at _ rfl (.tmp 51) (.tmp 57) 23 rfl w2.heap.size 9 i9 _ 1 16 Trym.underlying23 i9a i9b i9c i9d rfl (by decide) _ _ _ rfl (o0.alloc _) ⟨wr.heap.size, 0, none⟩ 1 1 [.string s] rfl rfl (cell_one_new _ _ _) (by intro u hu; simp at hu; subst hu; rfl) (by unfold maxLen; omega) (by omega) (by simp; omega) ?_)) | go_in)
            intro v0' wA o0A gA _ lA
            have o1A := (o1.alloc _).kept gA (parted_type o1 o0 (by decide))
            have o2A := (o2.alloc _).kept gA (parted_type o2 o0 (by decide))
            have o3A := (o3.alloc _).kept gA a30
            have o4A := (o4.alloc _).kept gA (parted_type o4 o0 (by decide))
            have a30A : Parted _ v0' := a30.step1 o3 lA
            have a03A : Parted v0' _ := a30A.symm o0A
            have hnA : Below w2.heap.size w2 wA := (hnx.alloc hs2 _).grown gA (by simp; omega) (fun q hq => (o0.lt q hq).1)
            have hcA : ∀ b o, b < w2.heap.size → wA.cell? ⟨b, o, none⟩ = w2.cell? ⟨b, o, none⟩ := fun b o h => hnA.cell (p := ⟨b, o, none⟩) h
            have hsA := hnA.size
            clear hcc hs2 hnx gA lA o0 o1 o2 o3 o4 a30 a03
            go_wp2_with (first | (at_builtin; (refine wpList_append_own_at _ rfl (.tmp 65) (.tmp 66) 35 rfl w2.heap.size 4 i4 _ 1 1 Trym.underlying35 i4a i4b i4c i4d rfl (by decide) _ _ _ rfl (o1A.alloc _) ⟨wA.heap.size, 0, none⟩ 1 1 [.bool true] rfl rfl (cell_one_new _ _ _) (by intro u hu; simp at hu; subst hu; rfl) (by unfold maxLen; omega) (by omega) (by simp; omega) ?_)) | go_in)
            intro v1' wB o1B gB _ lB
            have o0B := (o0A.alloc _).kept gB (parted_type o0A o1A (by decide))
            have o2B := (o2A.alloc _).kept gB (parted_type o2A o1A (by decide))
            have o3B := (o3A.alloc _).kept gB (parted_type o3A o1A (by decide))
            have o4B := (o4A.alloc _).kept gB (parted_type o4A o1A (by decide))
            have hnB : Below w2.heap.size w2 wB := (hnA.alloc hsA _).grown gB (by simp; omega) (fun q hq => (o1A.lt q hq).1)
            have hcB : ∀ b o, b < w2.heap.size → wB.cell? ⟨b, o, none⟩ = w2.cell? ⟨b, o, none⟩ := fun b o h => hnB.cell (p := ⟨b, o, none⟩) h
            have hsB := hnB.size
            clear hcA hsA hnA gB lB o0A o1A o2A o3A o4A
            go_wp2_with (first | (at_builtin; (refine wpList_append_own_at _ rfl (.tmp 68) (.tmp 77) 36 rfl w2.heap.size 3 i3 _ 1 8 Trym.underlying36 i3a i3b i3c i3d rfl (by decide) _ _ _ rfl (o2B.alloc _) ⟨wB.heap.size, 0, none⟩ 1 1 [.int .i64 x] rfl rfl (cell_one_new _ _ _) (by intro u hu; simp at hu; subst hu; rfl) (by unfold maxLen; omega) (by omega) (by simp; omega) ?_)) | go_in)
            intro v2' wC o2C gC _ lC
            have o0C := (o0B.alloc _).kept gC (parted_type o0B o2B (by decide))
            have o1C := (o1B.alloc _).kept gC (parted_type o1B o2B (by decide))
            have o3C := (o3B.alloc _).kept gC (parted_type o3B o2B (by decide))
            have o4C := (o4B.alloc _).kept gC a42
            have a42C : Parted _ v2' := a42.step1 o4B lC
            have a24C : Parted v2' _ := a42C.symm o2C
            have hnC : Below w2.heap.size w2 wC := (hnB.alloc hsB _).grown gC (by simp; omega) (fun q hq => (o2B.lt q hq).1)
            have hcC : ∀ b o, b < w2.heap.size → wC.cell? ⟨b, o, none⟩ = w2.cell? ⟨b, o, none⟩ := fun b o h => hnC.cell (p := ⟨b, o, none⟩) h
            have hsC := hnC.size
            clear hcB hsB hnB gC lC o0B o1B o2B o3B o4B a42 a24
            go_wp2_with (first | (at_builtin; (refine wpList_append_own_at _ rfl (.tmp 79) (.tmp 88) 23 rfl w2.heap.size 9 i9 _ 1 16 Trym.underlying23 i9a i9b i9c i9d rfl (by decide) _ _ _ rfl (o3C.alloc _) ⟨wC.heap.size, 0, none⟩ 1 1 [.string y] rfl rfl (cell_one_new _ _ _) (by intro u hu; simp at hu; subst hu; rfl) (by unfold maxLen; omega) (by omega) (by simp; omega) ?_)) | go_in)
            intro v3' wD o3D gD _ lD
            have o0D := (o0C.alloc _).kept gD a03A
            have o1D := (o1C.alloc _).kept gD (parted_type o1C o3C (by decide))
            have o2D := (o2C.alloc _).kept gD (parted_type o2C o3C (by decide))
            have o4D := (o4C.alloc _).kept gD (parted_type o4C o3C (by decide))
            have a03D : Parted _ v3' := a03A.step1 o0C lD
            have a30D : Parted v3' _ := a03D.symm o3D
            have hnD : Below w2.heap.size w2 wD := (hnC.alloc hsC _).grown gD (by simp; omega) (fun q hq => (o3C.lt q hq).1)
            have hcD : ∀ b o, b < w2.heap.size → wD.cell? ⟨b, o, none⟩ = w2.cell? ⟨b, o, none⟩ := fun b o h => hnD.cell (p := ⟨b, o, none⟩) h
            have hsD := hnD.size
            clear hcC hsC hnC gD lD o0C o1C o2C o3C o4C a03A a30A
            go_wp2_with (first | (at_builtin; (refine wpList_append_own_at _ rfl (.tmp 99) (.tmp 105) 36 rfl w2.heap.size 3 i3 _ 1 8 Trym.underlying36 i3a i3b i3c i3d rfl (by decide) _ _ _ rfl (o4D.alloc _) ⟨wD.heap.size, 0, none⟩ 1 1 [.int .i64 z] rfl rfl (cell_one_new _ _ _) (by intro u hu; simp at hu; subst hu; rfl) (by unfold maxLen; omega) (by omega) (by simp; omega) ?_)) | go_in)
            intro v4' wE o4E gE _ lE
            have o0E := (o0D.alloc _).kept gE (parted_type o0D o4D (by decide))
            have o1E := (o1D.alloc _).kept gE (parted_type o1D o4D (by decide))
            have o2E := (o2D.alloc _).kept gE a24C
            have o3E := (o3D.alloc _).kept gE (parted_type o3D o4D (by decide))
            have a24E : Parted _ v4' := a24C.step1 o2D lE
            have a42E : Parted v4' _ := a24E.symm o4E
            have hnE : Below w2.heap.size w2 wE := (hnD.alloc hsD _).grown gE (by simp; omega) (fun q hq => (o4D.lt q hq).1)
            have hcE : ∀ b o, b < w2.heap.size → wE.cell? ⟨b, o, none⟩ = w2.cell? ⟨b, o, none⟩ := fun b o h => hnE.cell (p := ⟨b, o, none⟩) h
            have hsE := hnE.size
            clear hcD hsD hnD gE lE o0D o1D o2D o3D o4D a24C a42C
            go_wp2
            go_roundw
            case rel => exact ⟨k + 1, hlt, by go_num, five_snoc hlt HT.out (by simpa using o0E) (by simpa using o1E) o2E o3E o4E a03D a24E, hnE⟩
            case measure => simp [intOf]; omega
          · have hk2 : k = L.length := by omega
            subst hk2
            go_wp2
            have hF' : Five w2.heap.size wr u18 u19 u20 u21 u22 (protosOf a0 a1 a3 a4 a7) := by
              rw [← HL.out]
              rw [List.take_of_length_le (by simp)] at hF
              exact hF
            exact bodyPost_ret (v := .tuple #[u18, u19, u20, u21, u22]) (by simp [results, Trym.results19, go_sem]) rfl ⟨_, _, _, _, _, rfl, hF'.base hbw.size, hbw.trans (hnx.mono hbw.size)⟩
end Go.Proofs.Qxb6001295aMods
