/-
  The law's loop over the links.
-/
import Derived.Test.Qxb6605826aTold
import Derived.Test.Qxb6605826aCarriesB
import Derived.Test.Qxb6605826aFits
import Derived.BigQuiet
import Derived.Deep.QuietTactic
namespace Go.Proofs.Qxb6605826a
open Go.RowKit

theorem joinB_list (l : List ByteArray) : (joinB l).data.toList = Lib.join (l.map (·.data.toList)) [38] := by simp [joinB]
theorem piece_list (s : ByteArray) : (piece s).data.toList = pieceL s := by simp [piece, pieceL, ByteArray.data_append]
theorem choice_list (s : ByteArray) : (choiceB s).data.toList = choiceL s := by simp [choiceB, choiceL, ByteArray.data_append]
theorem fills_list (I : Nat → Inp) (ni : Nat) : (fillsB I ni).map (·.data.toList) = (List.range ni).map fun j => pieceL (I j).name := by simp [fillsB, Function.comp_def, piece_list]
theorem href_plain {hr : ByteArray} {p : List UInt8} (hh : hr.data.toList = p ++ [63]) (I : Nat → Inp) (ni : Nat) (cid : ByteArray) : (hr ++ joinB (fillsB I ni)).data.toList = p ++ 63 :: Lib.join (pieces false cid ni I) [38] := by
  rw [ByteArray.data_append, Array.toList_append, hh, joinB_list, fills_list]
  simp [pieces]
theorem href_choice {hr : ByteArray} {p : List UInt8} (hh : hr.data.toList = p ++ [63]) (C : Nat → Ch) (I : Nat → Inp) (ni k : Nat) : (hrefC hr C I ni k).data.toList = p ++ 63 :: Lib.join (pieces true (C k).id ni I) [38] := by
  rw [hrefC, ByteArray.data_append, Array.toList_append, hh, joinB_list, List.map_cons, fills_list, choice_list]
  simp [pieces]

set_option maxRecDepth 1000000 in
set_option maxHeartbeats 4000000 in
theorem loop3 (Q : Exit → Act → World → Prop) (x0 : World) (B D L g cap : Nat) (po : Option Addr) (pc : Nat) (id hr : ByteArray) (co io : Option Addr) (nc cc ni ic wn : Nat) (C : Nat → Ch) (I : Nat → Inp) (c0 c2 c3 c4 c7 c8 c9 c10 c11 c12 c13 c14 c18 c19 c20 c21 c22 c23 c24 c25 c26 c27 c28 c29 c30 c31 c32 c33 c34 c35 c36 c37 c38 c39 c40 c41 c42 c43 c44 c45 c46 c47 c48 c49 c50 c51 c52 c53 c54 c55 c56 c57 c58 c59 c60 c61 c62 c63 c64 c65 c66 c67 c68 c69 c70 c71 c72 c73 c74 c75 c76 c77 c78 c79 c80 c81 c82 c83 c84 c85 c86 c87 c88 c89 c90 c91 c92 c93 c94 c95 c96 c97 c98 c99 c100 c101 c102 c103 c104 c105 c106 c107 c108 c109 c110 c111 c112 c113 c114 c115 c116 c117 c118 c119 c120 c121 c122 c123 c124 c125 c126 c127 c128 c129 c130 c131 c132 c133 c134 c135 c136 : Value)
    (hC : PairsAt x0 co nc C) (hI : InpsAt x0 io ni I) (hnc : nc ≤ 4096) (hni : ni ≤ 4096) (h63 : 63 ∉ id.data.toList) (hcp : ∀ j, j < nc → 38 ∉ (C j).id.data.toList) (hnp : ∀ j, j < ni → 61 ∉ (I j).name.data.toList ∧ 38 ∉ (I j).name.data.toList)
    (hhr : hr.data.toList = pathL ++ (id.data.toList ++ [63])) (hsz : ∀ k, k < want nc → (hrefOf hr C I nc ni k).size ≤ 1099511627776) (hne : nc ≠ 0 ∨ ni ≠ 0) (hwn : wn = want nc) (hD : x0.cell? ⟨D, 4, none⟩ = some (.pointer (some ⟨L, 0, none⟩))) (hL : Lks B x0 L g cap po pc hr nc ni C I)
    (hexit : ∀ (u14 u18 u19 u20 u21 u82 u83 u84 u85 u86 u87 u88 u89 u90 u91 u92 u93 u94 u95 u96 u97 u98 u99 u100 u101 u102 u103 u104 u105 u106 u107 u108 u109 u110 u111 u112 u113 u114 u115 u116 u117 u118 u119 u120 u121 u122 u123 u124 u125 u126 u127 u128 u129 u130 u131 u132 u133 u134 u135 u136 : Value) (wr : World), Below x0.heap.size x0 wr → Q (.exit 0) ⟨List.toArray (c0 :: .string id :: c2 :: c3 :: c4 :: .slice co nc cc :: .slice io ni ic :: c7 :: c8 :: c9 :: c10 :: c11 :: c12 :: c13 :: u14 :: .pointer (some ⟨D, 0, none⟩) :: .int .i64 (wn : Nat) :: .int .i64 (wn : Nat) :: u18 :: u19 :: u20 :: u21 :: c22 :: c23 :: c24 :: c25 :: c26 :: c27 :: c28 :: c29 :: c30 :: c31 :: c32 :: c33 :: c34 :: c35 :: c36 :: c37 :: c38 :: c39 :: c40 :: c41 :: c42 :: c43 :: c44 :: c45 :: c46 :: c47 :: c48 :: c49 :: c50 :: c51 :: c52 :: c53 :: c54 :: c55 :: c56 :: c57 :: c58 :: c59 :: c60 :: c61 :: c62 :: c63 :: c64 :: c65 :: c66 :: c67 :: c68 :: c69 :: c70 :: c71 :: c72 :: c73 :: c74 :: c75 :: c76 :: c77 :: c78 :: c79 :: c80 :: c81 :: u82 :: u83 :: u84 :: u85 :: u86 :: u87 :: u88 :: u89 :: u90 :: u91 :: u92 :: u93 :: u94 :: u95 :: u96 :: u97 :: u98 :: u99 :: u100 :: u101 :: u102 :: u103 :: u104 :: u105 :: u106 :: u107 :: u108 :: u109 :: u110 :: u111 :: u112 :: u113 :: u114 :: u115 :: u116 :: u117 :: u118 :: u119 :: u120 :: u121 :: u122 :: u123 :: u124 :: u125 :: u126 :: u127 :: u128 :: u129 :: u130 :: u131 :: u132 :: u133 :: u134 :: u135 :: u136 :: []), []⟩ wr) :
    Code.wp Try.prog (.loop (loopAt Try.f3.body 0)) Q ⟨List.toArray (c0 :: .string id :: c2 :: c3 :: c4 :: .slice co nc cc :: .slice io ni ic :: c7 :: c8 :: c9 :: c10 :: c11 :: c12 :: c13 :: c14 :: .pointer (some ⟨D, 0, none⟩) :: .int .i64 (wn : Nat) :: .int .i64 (0 : Nat) :: c18 :: c19 :: c20 :: c21 :: c22 :: c23 :: c24 :: c25 :: c26 :: c27 :: c28 :: c29 :: c30 :: c31 :: c32 :: c33 :: c34 :: c35 :: c36 :: c37 :: c38 :: c39 :: c40 :: c41 :: c42 :: c43 :: c44 :: c45 :: c46 :: c47 :: c48 :: c49 :: c50 :: c51 :: c52 :: c53 :: c54 :: c55 :: c56 :: c57 :: c58 :: c59 :: c60 :: c61 :: c62 :: c63 :: c64 :: c65 :: c66 :: c67 :: c68 :: c69 :: c70 :: c71 :: c72 :: c73 :: c74 :: c75 :: c76 :: c77 :: c78 :: c79 :: c80 :: c81 :: c82 :: c83 :: c84 :: c85 :: c86 :: c87 :: c88 :: c89 :: c90 :: c91 :: c92 :: c93 :: c94 :: c95 :: c96 :: c97 :: c98 :: c99 :: c100 :: c101 :: c102 :: c103 :: c104 :: c105 :: c106 :: c107 :: c108 :: c109 :: c110 :: c111 :: c112 :: c113 :: c114 :: c115 :: c116 :: c117 :: c118 :: c119 :: c120 :: c121 :: c122 :: c123 :: c124 :: c125 :: c126 :: c127 :: c128 :: c129 :: c130 :: c131 :: c132 :: c133 :: c134 :: c135 :: c136 :: []), []⟩ x0 := by
  have hwle : wn ≤ 4096 := by rw [hwn]; unfold want; split <;> omega
  have lD := World.block_lt_of_cell? x0 _ hD
  have HC := hide hC
  have HI := hide hI
  have HCP := hide hcp
  have HNP := hide hnp
  have HHR := hide hhr
  have HSZ := hide hsz
  have HL := hide hL
  have HX := hide hexit
  have HD := hide hD
  have HWN := hide hwn
  clear hC hI hcp hnp hhr hsz hL hexit hD hwn
  conv => arg 2; arg 1; whnf
  go_loopw [17] (fun i wr => ∃ k : Nat, k ≤ wn ∧ i = .int .i64 k ∧ Hid (Below x0.heap.size x0 wr)) (fun i _ => wn - (intOf i).toNat)
  case atStart => exact ⟨0, Nat.zero_le _, rfl, Below.refl _ _⟩
  case round =>
    rename World => xa
    obtain ⟨k, hk, rfl, HB⟩ := hrel
    by_cases hlt : k < wn
    · have hlt' : (k : Int) < (wn : Int) := by omega
      have hkw : k < want nc := by rw [← HWN.out]; exact hlt
      obtain ⟨⟨s, r0⟩, r1, r2⟩ := HL.out.row k hkw
      have lg := HL.out.lg
      have lL := HL.out.lL
      have d4 := (HB.out.cell (p := ⟨D, 4, none⟩) lD).trans HD.out
      have cL := (HB.out.cell (p := ⟨L, 0, none⟩) lL).trans HL.out.cL
      rw [← HWN.out] at cL
      replace r0 := (HB.out.cell (p := ⟨g, k * 3, none⟩) lg).trans r0
      replace r1 := (HB.out.cell (p := ⟨g, k * 3 + 1, none⟩) lg).trans r1
      replace r2 := (HB.out.cell (p := ⟨g, k * 3 + 2, none⟩) lg).trans r2
      have hszk := HSZ.out k hkw
      obtain ⟨hrf, hhf⟩ : ∃ hrf, hrf = hrefOf hr C I nc ni k := ⟨_, rfl⟩
      rw [← hhf] at r1 hszk
      have HHF := hide hhf
      clear hhf
      go_wp2_with fail
      obtain ⟨xb, hxb⟩ : ∃ xb, xb = xa.alloc (.cells #[.string s, .string hrf, .slice po ni pc] 40) := ⟨_, rfl⟩
      rw [← hxb]
      have bb : Below x0.heap.size x0 xb := by rw [hxb]; exact HB.out.alloc HB.out.size _
      have blk : xb.heap[xa.heap.size]? = some (.cells #[.string s, .string hrf, .slice po ni pc] 40 (0, 0)) := by rw [hxb]; exact heap_alloc_new _ _
      have l1 : xb.cell? ⟨xa.heap.size, 1, none⟩ = some (.string hrf) := cell_of_row xb _ 1 _ 40 _ blk
      have l2 : xb.cell? ⟨xa.heap.size, 2, none⟩ = some (.slice po ni pc) := cell_of_row xb _ 2 _ 40 _ blk
      have HBB := hide bb
      have lx : xa.heap.size < xb.heap.size := (Array.getElem?_eq_some_iff.1 blk).1
      clear hxb bb blk d4 cL r0 r1 r2 HB
      go_loopw [19] (fun i wr => ∃ j : Nat, j ≤ ni ∧ i = .int .i64 j ∧ Hid (Below xb.heap.size xb wr)) (fun i _ => ni - (intOf i).toNat)
      case atStart => exact ⟨0, Nat.zero_le _, rfl, Below.refl _ _⟩
      case round =>
        rename World => xc
        obtain ⟨j, hj, rfl, HJ⟩ := hrel
        have l1' := (HJ.out.cell (p := ⟨xa.heap.size, 1, none⟩) lx).trans l1
        have l2' := (HJ.out.cell (p := ⟨xa.heap.size, 2, none⟩) lx).trans l2
        have hb0 : Below x0.heap.size x0 xc := HBB.out.trans (HJ.out.mono HBB.out.size)
        have HB0 := hide hb0
        clear hb0
        by_cases hjn : j < ni
        · have hjn' : (j : Int) < (ni : Int) := by omega
          obtain ⟨pb, poff, hpo, _, lpb, hpar⟩ := HL.out.par.resolve_left (by omega)
          subst hpo
          obtain ⟨b, off, hio, lb, hinp⟩ := HI.out.resolve_left (by omega)
          subst hio
          have m1 := (HB0.out.cell (p := ⟨pb, _, none⟩) lpb).trans (hpar j hjn)
          have m2 := (HB0.out.cell (p := ⟨b, _, none⟩) lb).trans (hinp j hjn).1
          clear hpar hinp
          go_wp2_with fail
          go_quiet (fail)
          go_wp2_with fail
          go_roundw
          case rel => exact ⟨j + 1, by omega, by go_num, below_drewN HJ.out _⟩
          case measure => simp [intOf] <;> omega
        · have hjn' : (ni : Int) ≤ (j : Int) := by omega
          obtain rfl : ni = j := by omega
          have hpa : ParAt xc po ni I := by
            rcases HL.out.par with h0 | ⟨pb, poff, hpo, _, lpb, hpar⟩
            · exact .inl h0
            · exact .inr ⟨pb, poff, hpo, Nat.lt_of_lt_of_le lpb HB0.out.size, fun i hi => (HB0.out.cell (p := ⟨pb, _, none⟩) lpb).trans (hpar i hi)⟩
          have HPA := hide hpa
          clear hpa
          by_cases h0 : nc = 0
          · have hz : ¬ (0 : Int) < (nc : Int) := by omega
            have hlst := hide (show hrf.data.toList = pathL ++ (id.data.toList ++ 63 :: Lib.join (pieces false ⟨#[]⟩ ni I) [38]) by
              rw [HHF.out, hrefOf, if_pos h0, href_plain (p := pathL ++ id.data.toList) (by rw [HHR.out]; simp) I ni ⟨#[]⟩]; simp)
            have hpi : 0 < ni := by omega
            clear h0 hne
            go_wp2_with fail
            refine (f10_plain hrf id ⟨#[]⟩ po ni pc I xc hlst.out hpi h63 HNP.out hni hszk HPA.out).mono ?_
            rintro e xd ⟨rfl, rfl⟩
            go_wp2_with fail
            go_roundw
            case rel => exact ⟨k + 1, by omega, by go_num, HB0⟩
            case measure => simp [intOf] <;> omega
          · have hz : (0 : Int) < (nc : Int) := by omega
            have hkc : k < nc := by rw [HWN.out, want, if_neg h0] at hlt; exact hlt
            have hkc' : (k : Int) < (nc : Int) := by omega
            have hlst := hide (show hrf.data.toList = pathL ++ (id.data.toList ++ 63 :: Lib.join (pieces true (C k).id ni I) [38]) by
              rw [HHF.out, hrefOf, if_neg h0, href_choice (p := pathL ++ id.data.toList) (by rw [HHR.out]; simp) C I ni k]; simp)
            obtain ⟨b, off, hco, lb, hch⟩ := HC.out.resolve_left h0
            subst hco
            have m1 := (HB0.out.cell (p := ⟨b, _, none⟩) lb).trans (hch k hkc).1
            clear hch
            go_wp2_with fail
            refine (f10_choice hrf id (C k).id po ni pc I xc hlst.out (HCP.out k hkc) h63 HNP.out hni hszk HPA.out).mono ?_
            rintro e xd ⟨rfl, rfl⟩
            go_wp2_with fail
            go_roundw
            case rel => exact ⟨k + 1, by omega, by go_num, HB0⟩
            case measure => simp [intOf] <;> omega
    · have hlt' : (wn : Int) ≤ (k : Int) := by omega
      obtain rfl : wn = k := by omega
      go_wp2_with fail
      exact HX.out _ _ _ _ _ _ _ _ _ _ _ _ _ _ _ _ _ _ _ _ _ _ _ _ _ _ _ _ _ _ _ _ _ _ _ _ _ _ _ _ _ _ _ _ _ _ _ _ _ _ _ _ _ _ _ _ _ _ _ _ _ HB.out
end Go.Proofs.Qxb6605826a
