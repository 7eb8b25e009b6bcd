/-
  The law.
-/
import Derived.Test.Qxb6605826aLawL
import Derived.Test.Qxb6605826aZd
import Derived.Test.Qxb6605826aSmall
import Derived.Test.Qxb6605826aFits
import Derived.Test.Qxb6605826aHref
namespace Go.Proofs.Qxb6605826a
open Go.RowKit

theorem hrB_list (id : ByteArray) : (hrB id).data.toList = pathL ++ (id.data.toList ++ [63]) := by simp [hrB, pathL, ByteArray.data_append]
theorem plain_not {s : ByteArray} {marks : List UInt8} (h : Plain s marks) {c : UInt8} (hc : c ∈ marks) : c ∉ s.data.toList := by
  have := h c hc
  simpa using this
theorem href_sizes {id : ByteArray} {nc ni : Nat} {C : Nat → Ch} {I : Nat → Inp} (hid : id.size ≤ 1048576) (hcm : ∀ j, j < nc → (C j).id.size ≤ 1048576) (hnm : ∀ j, j < ni → (I j).name.size ≤ 1048576) (hni : ni ≤ 4096) : ∀ k, k < want nc → (hrefOf (hrB id) C I nc ni k).size ≤ 1099511627776 := by
  intro k hk
  have h1 := hr_small hid
  unfold hrefOf
  split
  · have h2 : (joinB (fillsB I ni)).size ≤ 8592072617 := join_small _ (by simp [fillsB]; omega) (fill_sizes I ni hnm)
    rw [ByteArray.size_append]; omega
  · rename_i h0
    rw [want, if_neg h0] at hk
    have h2 : (joinB (choiceB (C k).id :: fillsB I ni)).size ≤ 8592072617 := join_small _ (by simp [fillsB]; omega) (sizes_row _ I ni (hcm k hk) hnm)
    rw [hrefC, ByteArray.size_append]; omega

set_option maxRecDepth 1000000 in
set_option maxHeartbeats 4000000 in
theorem law3_any (id title desc label : ByteArray) (ko co io : Option Addr) (nk nc ni kc cc ic : Nat) (K C : Nat → Ch) (I : Nat → Inp) (w : World)
    (F12 : ∀ (h A : Nat) (mv : Value) (B : Nat) (w : World), IsAct w A id title desc label nc C ni I → IsIcons B w mv → id.size ≤ 1048576 → nc ≤ 4096 → ni ≤ 4096 → (∀ j, j < nc → (C j).id.size ≤ 1048576) → (∀ j, j < ni → (I j).name.size ≤ 1048576) → w.cell? ⟨h, 1, none⟩ = some mv → Calls Try.prog 12 #[.pointer (some ⟨h, 0, none⟩), .pointer (some ⟨A, 0, none⟩)] w fun e w' => ∃ ic lv, e = .returned (.agg #[.string ic, .string title, .string desc, .string label, lv]) ∧ Below w.heap.size w w' ∧ LinksV (w.heap.size + 2) w' lv (hrB id) nc ni C I)
    (hK : PairsAt w ko nk K) (hC : PairsAt w co nc C) (hI : InpsAt w io ni I) (hcn : co = none → nc = 0) (hin : io = none → ni = 0) (hks : ∀ i, i < nk → (K i).id.size ≤ maxLen ∧ (K i).label.size ≤ maxLen) :
    Calls Try.prog 3 #[.slice ko nk kc, .string id, .string title, .string desc, .string label, .slice co nc cc, .slice io ni ic] w fun e w' => e = .returned (.bool true) ∧ Below w.heap.size w w' := by
  have HF := hide F12
  have hK := hide hK
  have hC := hide hC
  have hI := hide hI
  have hcn := hide hcn
  have hin := hide hin
  have hks := hide hks
  clear F12
  go_enter Try.func3, Try.ntmps3
  go_wp2_with fail
  refine (f4_any id title desc label ko co io nk nc ni kc cc ic K C I w hK.out hC.out hI.out).mono ?_
  rintro e w1 ⟨hw1, q, rfl, hq⟩
  rw [hw1]
  clear hw1 w1
  cases q with
  | false =>
    go_wp2_with fail
    go_ret
    exact ⟨rfl, Below.refl _ _⟩
  | true =>
  obtain ⟨hs, hnk, _, _⟩ := hq rfl
  have HS := hide hs
  have hidz := hs.id
  clear hq hs
  go_wp2_with fail
  refine (f5_any id title desc label ko co io nk nc ni kc cc ic K C I w hK.out hC.out hI.out).mono ?_
  rintro e w2 ⟨hb2, q, rfl, hq⟩
  have B2 := hide hb2
  cases q with
  | false =>
    go_wp2_with fail
    go_ret
    exact ⟨rfl, B2.out⟩
  | true =>
  obtain ⟨_, hnc, hni⟩ := hq rfl
  clear hq hb2
  go_wp2_with fail
  refine (f6_any id co io nc ni cc ic C I w2 (hC.out.below B2.out) (hI.out.below B2.out) HS.out (by omega) (by omega)).mono ?_
  rintro e w3 ⟨hw3, q, rfl, hq⟩
  rw [hw3]
  clear hw3 w3
  cases q with
  | false =>
    go_wp2_with fail
    go_ret
    exact ⟨rfl, B2.out⟩
  | true =>
  have hr := hq rfl
  have h63 : 63 ∉ id.data.toList := plain_not hr.id (by simp)
  have HCP := hide (fun j hj => plain_not (hr.ch j hj) (by simp) : ∀ j, j < nc → 38 ∉ (C j).id.data.toList)
  have HNP := hide (fun j hj => ⟨plain_not (hr.inp j hj) (by simp), plain_not (hr.inp j hj) (by simp)⟩ : ∀ j, j < ni → 61 ∉ (I j).name.data.toList ∧ 38 ∉ (I j).name.data.toList)
  have hcm := hide HS.out.ch
  have hnm := hide HS.out.inp
  clear hq hr
  go_wp2_with fail
  refine (f8_any ko nk kc K w2 (hK.out.below B2.out) hks.out hnk).mono ?_
  rintro e w4 ⟨mv, rfl, hm, hb4⟩
  obtain ⟨mo, rfl⟩ : ∃ mo, mv = .map mo := by
    rcases hm.is with rfl | ⟨b, n, D, rfl, _⟩
    · exact ⟨none, rfl⟩
    · exact ⟨some b, rfl⟩
  have HM := hide hm
  have B4 : Hid (Below w.heap.size w w4) := hide (B2.out.trans (hb4.mono B2.out.size))
  clear hm hb4
  go_wp2_with fail
  refine (f9_any id title desc label co io nc ni cc ic C I w4 (hC.out.below B4.out) (hI.out.below B4.out) hcn.out hin.out (by omega) (by omega)).mono ?_
  rintro e w5 ⟨A, rfl, hA, hb5⟩
  have HA := hide hA
  have HM5 := hide (HM.out.below hb5)
  have B5 : Hid (Below w.heap.size w w5) := hide (B4.out.trans (hb5.mono B4.out.size))
  clear hA hb5 HM
  go_wp2_with fail
  refine (f7_any A (.map mo) id title desc label (hrB id) nc ni C I w2.heap.size w5 (fun h x ha hm hh => HF.out h A _ _ x ha hm hidz hnc hni hcm.out hnm.out hh) HA.out HM5.out).mono ?_
  rintro e w6 ⟨ico, lv, rfl, hb6, hV⟩
  have B6 : Hid (Below w.heap.size w w6) := hide (B5.out.trans (hb6.mono B5.out.size))
  clear hb6 HA HM5 HF
  rcases hV with ⟨hnc0, hni0, rfl⟩ | ⟨hne, L, g, cap, po, pc, rfl, hlk⟩
  · have z1 : (nc : Int) = 0 := by omega
    have z2 : ¬ (0 : Int) < (ni : Int) := by omega
    have b7 := B6.out.alloc B6.out.size (.cells #[.string ico, .string title, .string desc, .string label, .pointer none] 29)
    have B7 := hide b7
    clear hnc0 hni0 b7
    go_wp2_with fail
    go_ret
    exact ⟨rfl, B7.out⟩
  · have hne := hide hne
    obtain ⟨w7, hw7⟩ : ∃ w7, w7 = w6.alloc (.cells #[.string ico, .string title, .string desc, .string label, .pointer (some ⟨L, 0, none⟩)] 29) := ⟨_, rfl⟩
    have b67 : Below w6.heap.size w6 w7 := by rw [hw7]; exact (Below.refl _ _).alloc (Nat.le_refl _) _
    have b7 : Below w.heap.size w w7 := B6.out.trans (b67.mono B6.out.size)
    have hw7' := hw7.symm
    have l7 := hlk.move b67.size (fun b _ h2 => b67.block b h2)
    have d4 : w7.cell? ⟨w6.heap.size, 4, none⟩ = some (.pointer (some ⟨L, 0, none⟩)) := by rw [hw7]; exact cell_of_row _ _ 4 _ 29 _ (heap_alloc_new _ _)
    have cL : ∀ o, (w6.alloc o).cell? ⟨L, 0, none⟩ = some (.slice (some ⟨g, 0, none⟩) (want nc) cap) := fun o => (((Below.refl w6.heap.size w6).alloc (Nat.le_refl _) o).cell (p := ⟨L, 0, none⟩) hlk.lL).trans hlk.cL
    have HLK := hide l7
    have HD4 := hide d4
    have HB7 := hide b7
    have HB67 := hide b67
    have HW7 := hide hw7'
    have s67 : w.heap.size ≤ w7.heap.size := b7.size
    clear hw7 hw7' l7 d4 b7 b67 hlk
    by_cases h0 : nc = 0
    · have hni0 : ni ≠ 0 := by rcases hne.out with h | h <;> omega
      have z1 : (nc : Int) = 0 := by omega
      have z2 : (0 : Int) < (ni : Int) := by omega
      have hw1 : want nc = 1 := by rw [want, if_pos h0]
      rw [hw1] at cL
      have HW1 := hide hw1.symm
      clear hw1 h0
      go_wp2_with fail
      rw [HW7.out]
      refine loop3 _ w7 w5.heap.size w6.heap.size L g cap po pc id (hrB id) co io nc cc ni ic 1 C I _ _ _ _ _ _ _ _ _ _ _ _ _ _ _ _ _ _ _ _ _ _ _ _ _ _ _ _ _ _ _ _ _ _ _ _ _ _ _ _ _ _ _ _ _ _ _ _ _ _ _ _ _ _ _ _ _ _ _ _ _ _ _ _ _ _ _ _ _ _ _ _ _ _ _ _ _ _ _ _ _ _ _ _ _ _ _ _ _ _ _ _ _ _ _ _ _ _ _ _ _ _ _ _ _ _ _ _ _ _ _ _ _ _ _ _ _ _ _ _ _ _ _ _ _ _ _ _ _ _ _ (hC.out.below HB7.out) (hI.out.below HB7.out) hnc hni h63 HCP.out HNP.out (hrB_list id) (href_sizes hidz hcm.out hnm.out hni) hne.out HW1.out HD4.out HLK.out ?_
      intro _ _ _ _ _ _ _ _ _ _ _ _ _ _ _ _ _ _ _ _ _ _ _ _ _ _ _ _ _ _ _ _ _ _ _ _ _ _ _ _ _ _ _ _ _ _ _ _ _ _ _ _ _ _ _ _ _ _ _ _ wr hbr
      go_wp2_with fail
      go_ret
      exact ⟨rfl, HB7.out.trans (hbr.mono s67)⟩
    · have z1 : ¬ (nc : Int) = 0 := by omega
      have hw1 : want nc = nc := by rw [want, if_neg h0]
      rw [hw1] at cL
      have HW1 := hide hw1.symm
      have z3 : (0 : Int) < (nc : Int) := by omega
      clear hw1
      go_wp2_with fail
      rw [HW7.out]
      refine loop3 _ w7 w5.heap.size w6.heap.size L g cap po pc id (hrB id) co io nc cc ni ic nc C I _ _ _ _ _ _ _ _ _ _ _ _ _ _ _ _ _ _ _ _ _ _ _ _ _ _ _ _ _ _ _ _ _ _ _ _ _ _ _ _ _ _ _ _ _ _ _ _ _ _ _ _ _ _ _ _ _ _ _ _ _ _ _ _ _ _ _ _ _ _ _ _ _ _ _ _ _ _ _ _ _ _ _ _ _ _ _ _ _ _ _ _ _ _ _ _ _ _ _ _ _ _ _ _ _ _ _ _ _ _ _ _ _ _ _ _ _ _ _ _ _ _ _ _ _ _ _ _ _ _ _ (hC.out.below HB7.out) (hI.out.below HB7.out) hnc hni h63 HCP.out HNP.out (hrB_list id) (href_sizes hidz hcm.out hnm.out hni) hne.out HW1.out HD4.out HLK.out ?_
      intro _ _ _ _ _ _ _ _ _ _ _ _ _ _ _ _ _ _ _ _ _ _ _ _ _ _ _ _ _ _ _ _ _ _ _ _ _ _ _ _ _ _ _ _ _ _ _ _ _ _ _ _ _ _ _ _ _ _ _ _ wr hbr
      go_wp2_with fail
      go_ret
      exact ⟨rfl, HB7.out.trans (hbr.mono s67)⟩
end Go.Proofs.Qxb6605826a
