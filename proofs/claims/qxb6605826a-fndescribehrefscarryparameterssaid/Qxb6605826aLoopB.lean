/-
  describe's second loop.
-/
import Derived.Test.Qxb6605826aLoopA
import Derived.Test.Qxb6605826aLinks
import Derived.Deep.AppendLies
import Derived.Deep.RegionLaw
import Derived.Deep.RegionHeld3
import Derived.Deep.DrawnRows
namespace Go.Proofs.Qxb6605826a
open Go.RowKit

theorem two_own (x : World) (o : Obj) (c : Value) : ((x.alloc o).alloc (.cells #[c] 9)).ownsRow (x.heap.size + 1) 9 1 (.slice (some ⟨x.heap.size + 1, 0, none⟩) 1 1) 1 [c] :=
  ⟨rfl, .inr ⟨_, 1, #[c], rfl, Nat.le_refl _, two_new _ _ _, by decide, by decide, rfl, rfl⟩⟩
theorem two_below {x y : World} {o o' : Obj} (hg : ((x.alloc o).alloc o').grownBy y (some (x.heap.size + 1))) : Below x.heap.size x y ∧ y.heap[x.heap.size]? = some o := by
  refine ⟨(((Below.refl _ _).alloc (Nat.le_refl _) _).alloc (by simp) _).grown hg (by simp; omega) (fun j hj => by cases hj; omega), ?_⟩
  refine (hg.block x.heap.size (by simp; omega) (by simp)).trans (two_old _ _ _)
theorem Lk.alloc {w x : World} {dc rc : Array Value} {L : Nat} {pv fv lv : Value} {hr : ByteArray} {C : Nat → Ch} {I : Nat → Inp} {ni k : Nat} (h : Lk w x dc rc L pv fv lv hr C I ni k) (o : Obj) : Lk w (x.alloc o) dc rc L pv fv lv hr C I ni k :=
  h.below ((Below.refl _ _).alloc (Nat.le_refl _) o)
theorem fills_one (I : Nat → Inp) (ni : Nat) : ∀ u ∈ fills I ni, u.oneCell' = true := by
  intro u hu
  simp only [fills, List.mem_map] at hu
  obtain ⟨j, _, rfl⟩ := hu
  rfl
theorem choice_row (c : ByteArray) (I : Nat → Inp) (ni : Nat) : Value.string (choiceB c) :: fills I ni = (choiceB c :: fillsB I ni).map Value.string := by rw [fills_str]; rfl
theorem sizes_row (c : ByteArray) (I : Nat → Inp) (ni : Nat) (hc : c.size ≤ 1048576) (hn : ∀ j, j < ni → (I j).name.size ≤ 1048576) : ∀ x ∈ choiceB c :: fillsB I ni, x.size ≤ 2097160 := by
  intro x hx
  simp only [List.mem_cons, fillsB, List.mem_map, List.mem_range] at hx
  rcases hx with rfl | ⟨j, hj, rfl⟩
  · simp only [choiceB, ByteArray.size_append]
    show 7 + c.size ≤ _
    omega
  · have := hn j hj
    simp only [piece, ByteArray.size_append]
    show (I j).name.size + 2 + (I j).name.size + 1 ≤ _
    omega

set_option maxRecDepth 1000000 in
set_option maxHeartbeats 4000000 in
theorem loop2 (Q : Exit → Act → World → Prop) (w x0 : World) (dc rc : Array Value) (L : Nat) (fv : Value) (po : Option Addr) (pc : Nat) (hr : ByteArray) (co : Option Addr) (nc cc ni : Nat) (C : Nat → Ch) (I : Nat → Inp) (c0 c1 c2 c3 c4 c8 c9 c11 c12 c13 c14 c15 c16 c17 c18 c19 c20 c21 c22 c23 c24 c25 c26 c27 c28 c29 c30 c31 c32 c33 c34 c35 c36 c37 c38 c39 c40 c41 c42 c43 c44 c45 c46 c47 c48 c49 c50 c51 c52 c53 c54 c55 c56 c57 c58 c59 c60 c61 c62 c63 c64 c65 c66 c67 c68 c69 c70 c71 c72 c73 c74 c75 c76 c77 c78 c79 c80 c81 c82 c83 c84 c88 c89 c90 c91 c92 c93 c94 c95 c96 c97 c98 c99 c100 c101 c102 c103 c104 c105 c106 c107 c108 c109 c110 c111 c112 c113 c114 c115 c116 c117 c118 c119 c120 c121 c122 c123 c124 c125 c126 c127 c128 c129 c130 c131 c132 c133 c134 c135 c136 c137 c138 : Value)
    (JR : ∀ (W : World) (base g n cap : Nat) (l : List ByteArray), W.ownsRow base 9 1 (.slice (some ⟨g, 0, none⟩) n cap) n (l.map Value.string) → l.length ≤ 4097 → (∀ x ∈ l, x.size ≤ 2097160) → Calls Try.prog 14 #[.slice (some ⟨g, 0, none⟩) n cap, .string ⟨#[38]⟩] W fun e w' => e = .returned (.string (joinB l)) ∧ Below W.heap.size W w')
    (hC : PairsAt w co nc C) (hnc : nc ≤ 4096) (hni : ni ≤ 4096) (hcm : ∀ j, j < nc → (C j).id.size ≤ 1048576) (hnm : ∀ j, j < ni → (I j).name.size ≤ 1048576) (hhr : hr.size ≤ 2097152) (hd4 : dc[4]? = some (.pointer (some ⟨L, 0, none⟩))) (hfn : ni = 0 → fv = .slice none 0 0)
    (L0 : Lk w x0 dc rc L (.slice po ni pc) fv (.slice none 0 0) hr C I ni 0)
    (hexit : ∀ (u12 u13 u88 u89 u90 u91 u92 u93 u94 u95 u96 u97 u98 u99 u100 u101 u102 u103 u104 u105 u106 u107 u108 u109 u110 u111 u112 u113 u114 u115 u116 : Value) (lv : Value) (wr : World), Lk w wr dc rc L (.slice po ni pc) fv lv hr C I ni nc → Q (.exit 3) ⟨List.toArray (c0 :: c1 :: c2 :: c3 :: c4 :: .pointer (some ⟨w.heap.size + 1, 0, none⟩) :: .slice po ni pc :: fv :: c8 :: c9 :: .string hr :: c11 :: u12 :: u13 :: c14 :: c15 :: c16 :: c17 :: c18 :: c19 :: c20 :: c21 :: c22 :: c23 :: c24 :: c25 :: c26 :: c27 :: c28 :: c29 :: c30 :: c31 :: c32 :: c33 :: c34 :: c35 :: c36 :: c37 :: c38 :: c39 :: c40 :: c41 :: c42 :: c43 :: c44 :: c45 :: c46 :: c47 :: c48 :: c49 :: c50 :: c51 :: c52 :: c53 :: c54 :: c55 :: c56 :: c57 :: c58 :: c59 :: c60 :: c61 :: c62 :: c63 :: c64 :: c65 :: c66 :: c67 :: c68 :: c69 :: c70 :: c71 :: c72 :: c73 :: c74 :: c75 :: c76 :: c77 :: c78 :: c79 :: c80 :: c81 :: c82 :: c83 :: c84 :: .slice co nc cc :: .int .i64 nc :: .int .i64 nc :: u88 :: u89 :: u90 :: u91 :: u92 :: u93 :: u94 :: u95 :: u96 :: u97 :: u98 :: u99 :: u100 :: u101 :: u102 :: u103 :: u104 :: u105 :: u106 :: u107 :: u108 :: u109 :: u110 :: u111 :: u112 :: u113 :: u114 :: u115 :: u116 :: c117 :: c118 :: c119 :: c120 :: c121 :: c122 :: c123 :: c124 :: c125 :: c126 :: c127 :: c128 :: c129 :: c130 :: c131 :: c132 :: c133 :: c134 :: c135 :: c136 :: c137 :: c138 :: []), []⟩ wr) :
    Code.wp Try.prog (.loop (loopAt Try.f12.body 1)) Q ⟨List.toArray (c0 :: c1 :: c2 :: c3 :: c4 :: .pointer (some ⟨w.heap.size + 1, 0, none⟩) :: .slice po ni pc :: fv :: c8 :: c9 :: .string hr :: c11 :: c12 :: c13 :: c14 :: c15 :: c16 :: c17 :: c18 :: c19 :: c20 :: c21 :: c22 :: c23 :: c24 :: c25 :: c26 :: c27 :: c28 :: c29 :: c30 :: c31 :: c32 :: c33 :: c34 :: c35 :: c36 :: c37 :: c38 :: c39 :: c40 :: c41 :: c42 :: c43 :: c44 :: c45 :: c46 :: c47 :: c48 :: c49 :: c50 :: c51 :: c52 :: c53 :: c54 :: c55 :: c56 :: c57 :: c58 :: c59 :: c60 :: c61 :: c62 :: c63 :: c64 :: c65 :: c66 :: c67 :: c68 :: c69 :: c70 :: c71 :: c72 :: c73 :: c74 :: c75 :: c76 :: c77 :: c78 :: c79 :: c80 :: c81 :: c82 :: c83 :: c84 :: .slice co nc cc :: .int .i64 nc :: .int .i64 (0 : Nat) :: c88 :: c89 :: c90 :: c91 :: c92 :: c93 :: c94 :: c95 :: c96 :: c97 :: c98 :: c99 :: c100 :: c101 :: c102 :: c103 :: c104 :: c105 :: c106 :: c107 :: c108 :: c109 :: c110 :: c111 :: c112 :: c113 :: c114 :: c115 :: c116 :: c117 :: c118 :: c119 :: c120 :: c121 :: c122 :: c123 :: c124 :: c125 :: c126 :: c127 :: c128 :: c129 :: c130 :: c131 :: c132 :: c133 :: c134 :: c135 :: c136 :: c137 :: c138 :: []), []⟩ x0 := by
  have HC := hide hC
  obtain ⟨i0, hi, hz0, hz1, hz2⟩ := info_parts info40
  have HI := hide hi
  obtain ⟨j0, hj, hy0, hy1, hy2⟩ := info_parts info9
  have HJ := hide hj
  have HX := hide hexit
  have HNM := hide hnm
  have HCM := hide hcm
  have HD4 := hide hd4
  have HFN := hide hfn
  have HJR := hide JR
  clear hi hj hC hexit hnm hcm hd4 hfn JR
  conv => arg 2; arg 1; whnf
  go_loopw [87] (fun i wr => ∃ k lv, k ≤ nc ∧ i = .int .i64 (k : Nat) ∧ Hid (Lk w wr dc rc L (.slice po ni pc) fv lv hr C I ni k)) (fun i _ => nc - (intOf i).toNat)
  case atStart => exact ⟨0, _, Nat.zero_le _, rfl, L0⟩
  case round =>
    clear L0
    rename World => xa
    obtain ⟨k, lv, hk, rfl, HL⟩ := hrel
    by_cases hlt : k < nc
    · have hlt' : (k : Int) < (nc : Int) := by omega
      obtain ⟨b, off, hio, hb, hc⟩ := HC.out.resolve_left (by omega)
      subst hio
      have d0 := (HL.out.bel.cell (p := ⟨b, _, none⟩) hb).trans (hc k hlt).1
      have d1 := (HL.out.bel.cell (p := ⟨b, _, none⟩) hb).trans (hc k hlt).2
      clear hc
      have hcs := HCM.out k hlt
      go_wp2_with (at_builtin; refine wpList_append_rows rfl (.tmp 94) (.tmp 95) 61 rfl (xa.heap.size + 1) 9 j0 _ 1 16 Try.underlying61 HJ.out hy0 hy1 hy2 rfl (by decide) (.slice (some ⟨xa.heap.size + 1, 0, none⟩) 1 1) 1 [.string (choiceB (C k).id)] rfl (two_own _ _ _) (by decide) fv ni (fills I ni) (w.heap.size + 2) rfl ((HL.out.alloc _).alloc _).f HFN.out (fills_one I ni) (by unfold maxLen; omega) (by omega) (by simp) ?_)
      intro qg qcap xq hownq hgrowq
      obtain ⟨hbq, hblk⟩ := two_below hgrowq
      have hq := HL.out.below hbq
      have e1 : xq.cell? ⟨xa.heap.size, 1, none⟩ = some (.string (C k).label) := cell_of_row xq _ 1 _ 67 _ hblk
      have e4 : xq.cell? ⟨w.heap.size + 1, 4, none⟩ = some (.pointer (some ⟨L, 0, none⟩)) := (cell_of_row xq _ 4 _ 29 _ hq.d).trans HD4.out
      have el : xq.cell? ⟨L, 0, none⟩ = some lv := cell_of_row xq _ 0 _ 37 _ hq.l
      have fl : xq.frozen? ⟨L, 0, none⟩ = false := frozen_of_row xq _ 0 _ 37 hq.l
      replace hownq : xq.ownsRow (xa.heap.size + 1) 9 1 (.slice (some ⟨qg, 0, none⟩) (1 + ni) qcap) (1 + ni) ((choiceB (C k).id :: fillsB I ni).map Value.string) := by rw [← choice_row]; exact hownq
      have jr := HJR.out xq.drew _ qg (1 + ni) qcap _ hownq.drew (by simp [fillsB]; omega) (sizes_row _ I ni hcs HNM.out)
      have HQ := hide hq
      have la := (Array.getElem?_eq_some_iff.1 hblk).1
      have lL := (Array.getElem?_eq_some_iff.1 hq.l).1
      have ld := hq.sz
      have HBLK := hide hblk
      have JRR := hide jr
      clear hownq hgrowq hbq hblk hq d0 d1 HL jr
      have js : (joinB (choiceB (C k).id :: fillsB I ni)).size ≤ 8592072617 := join_small _ (by simp [fillsB]; omega) (sizes_row _ I ni hcs HNM.out)
      go_wp2_with fail
      generalize hjb : joinB (choiceB (C k).id :: fillsB I ni) = jb at js JRR
      have hcat : ¬ 9223372036854775807 < hr.size + jb.size := by omega
      refine wp_region_noPanic ?_
      refine wp_region_held_drew (S := fun w' => w'.cell? ⟨w.heap.size + 1, 4, none⟩ = some (.pointer (some ⟨L, 0, none⟩)) ∧ w'.cell? ⟨xa.heap.size, 1, none⟩ = some (.string (C k).label)) (by kernel_rfl) ⟨e4, e1⟩ (fun hHeld => ?_)
      refine wpAnyH_take (i := 0) (oi := { dst := some 97, op := Op.fieldAddr 29 (Operand.tmp 5) 4, type := 0, pos := "handler.go:234", after := #[], guard := none }) (v := ?_) rfl (by kernel_rfl) (by kernel_rfl) (by kernel_rfl) (fun _ _ _ h => h) (Or.inl ⟨by rfl, ?_⟩) hHeld ?_
      rotate_left
      · (intro w' hSw; obtain ⟨s1, s2⟩ := hSw; go_simp; try (with_reducible rfl))
      try simp only [Act.put, List.setIfInBounds_toArray, List.set_cons_zero, List.set_cons_succ]
      refine wpAnyH_take (i := 1) (oi := { dst := some 98, op := Op.load 27 (Operand.tmp 97), type := 27, pos := "handler.go:234", after := #[{ on := 0, ground := Ground.data }], guard := none }) (v := ?_) rfl (by kernel_rfl) (by kernel_rfl) (by kernel_rfl) (fun _ _ _ h => h) (Or.inl ⟨by rfl, ?_⟩) hHeld ?_
      rotate_left
      · (intro w' hSw; obtain ⟨s1, s2⟩ := hSw; go_simp; try (with_reducible rfl))
      try simp only [Act.put, List.setIfInBounds_toArray, List.set_cons_zero, List.set_cons_succ]
      refine wpAnyH_take (i := 2) (oi := { dst := some 99, op := Op.fieldAddr 29 (Operand.tmp 5) 4, type := 0, pos := "handler.go:234", after := #[], guard := none }) (v := ?_) rfl (by kernel_rfl) (by kernel_rfl) (by kernel_rfl) (fun _ _ _ h => h) (Or.inl ⟨by rfl, ?_⟩) hHeld ?_
      rotate_left
      · (intro w' hSw; obtain ⟨s1, s2⟩ := hSw; go_simp; try (with_reducible rfl))
      try simp only [Act.put, List.setIfInBounds_toArray, List.set_cons_zero, List.set_cons_succ]
      refine wpAnyH_take (i := 3) (oi := { dst := some 100, op := Op.load 27 (Operand.tmp 99), type := 27, pos := "handler.go:234", after := #[{ on := 2, ground := Ground.data }], guard := none }) (v := ?_) rfl (by kernel_rfl) (by kernel_rfl) (by kernel_rfl) (fun _ _ _ h => h) (Or.inl ⟨by rfl, ?_⟩) hHeld ?_
      rotate_left
      · (intro w' hSw; obtain ⟨s1, s2⟩ := hSw; go_simp; try (with_reducible rfl))
      try simp only [Act.put, List.setIfInBounds_toArray, List.set_cons_zero, List.set_cons_succ]
      refine wpAnyH_take (i := 4) (oi := { dst := some 101, op := Op.nilCheck (Operand.tmp 100), type := 0, pos := "handler.go:234", after := #[{ on := 3, ground := Ground.data }], guard := none }) (v := ?_) rfl (by kernel_rfl) (by kernel_rfl) (by kernel_rfl) (fun _ _ _ h => h) (Or.inl ⟨by rfl, ?_⟩) hHeld ?_
      rotate_left
      · (intro w' hSw; obtain ⟨s1, s2⟩ := hSw; go_simp; try (with_reducible rfl))
      try simp only [Act.put, List.setIfInBounds_toArray, List.set_cons_zero, List.set_cons_succ]
      refine wpAnyH_take (i := 5) (oi := { dst := some 102, op := Op.fieldAddr 37 (Operand.tmp 101) 0, type := 0, pos := "handler.go:234", after := #[{ on := 4, ground := Ground.data }], guard := none }) (v := ?_) rfl (by kernel_rfl) (by kernel_rfl) (by kernel_rfl) (fun _ _ _ h => h) (Or.inl ⟨by rfl, ?_⟩) hHeld ?_
      rotate_left
      · (intro w' hSw; obtain ⟨s1, s2⟩ := hSw; go_simp; try (with_reducible rfl))
      try simp only [Act.put, List.setIfInBounds_toArray, List.set_cons_zero, List.set_cons_succ]
      refine wpAnyH_take (i := 7) (oi := { dst := some 104, op := Op.fieldAddr 67 (Operand.tmp 12) 1, type := 0, pos := "handler.go:234", after := #[], guard := none }) (v := ?_) rfl (by kernel_rfl) (by kernel_rfl) (by kernel_rfl) (fun _ _ _ h => h) (Or.inl ⟨by rfl, ?_⟩) hHeld ?_
      rotate_left
      · (intro w' hSw; obtain ⟨s1, s2⟩ := hSw; go_simp; try (with_reducible rfl))
      try simp only [Act.put, List.setIfInBounds_toArray, List.set_cons_zero, List.set_cons_succ]
      refine wpAnyH_take (i := 8) (oi := { dst := some 105, op := Op.load 9 (Operand.tmp 104), type := 9, pos := "handler.go:234", after := #[{ on := 7, ground := Ground.data }], guard := none }) (v := ?_) rfl (by kernel_rfl) (by kernel_rfl) (by kernel_rfl) (fun _ _ _ h => h) (Or.inl ⟨by rfl, ?_⟩) hHeld ?_
      rotate_left
      · (intro w' hSw; obtain ⟨s1, s2⟩ := hSw; go_simp; try (with_reducible rfl))
      try simp only [Act.put, List.setIfInBounds_toArray, List.set_cons_zero, List.set_cons_succ]
      refine wpAnyH_take (i := 9) (oi := { dst := some 106, op := Op.move (Operand.tmp 10), type := 9, pos := "handler.go:234", after := #[], guard := none }) (v := ?_) rfl (by kernel_rfl) (by kernel_rfl) (by kernel_rfl) (fun _ _ _ h => h) (Or.inl ⟨by rfl, ?_⟩) hHeld ?_
      rotate_left
      · (intro w' hSw; obtain ⟨s1, s2⟩ := hSw; go_simp; try (with_reducible rfl))
      try simp only [Act.put, List.setIfInBounds_toArray, List.set_cons_zero, List.set_cons_succ]
      refine wpAnyH_take (i := 10) (oi := { dst := some 107, op := Op.move (Operand.tmp 13), type := 61, pos := "handler.go:234", after := #[], guard := none }) (v := ?_) rfl (by kernel_rfl) (by kernel_rfl) (by kernel_rfl) (fun _ _ _ h => h) (Or.inl ⟨by rfl, ?_⟩) hHeld ?_
      rotate_left
      · (intro w' hSw; obtain ⟨s1, s2⟩ := hSw; go_simp; try (with_reducible rfl))
      try simp only [Act.put, List.setIfInBounds_toArray, List.set_cons_zero, List.set_cons_succ]
      refine wpAnyH_take (i := 13) (oi := { dst := some 110, op := Op.move (Operand.tmp 6), type := 38, pos := "handler.go:234", after := #[], guard := none }) (v := ?_) rfl (by kernel_rfl) (by kernel_rfl) (by kernel_rfl) (fun _ _ _ h => h) (Or.inl ⟨by rfl, ?_⟩) hHeld ?_
      rotate_left
      · (intro w' hSw; obtain ⟨s1, s2⟩ := hSw; go_simp; try (with_reducible rfl))
      try simp only [Act.put, List.setIfInBounds_toArray, List.set_cons_zero, List.set_cons_succ]
      refine wpAnyH_ready (rs := [6, 11]) (by kernel_rfl) (by simp) ?_
      refine AllReadyH.cons (o := { dst := some 103, op := Op.load 35 (Operand.tmp 102), type := 35, pos := "handler.go:234", after := #[{ on := 5, ground := Ground.data }], guard := none }) rfl (fun K hK => ?_) (AllReadyH.cons (o := { dst := some 108, op := Op.call { callee := Callee.value (Operand.func 14), args := #[Operand.tmp 107, Operand.const (Value.string { data := #[38] })], argTypes := #[61, 9] }, type := 9, pos := "handler.go:234", after := #[{ on := 10, ground := Ground.data }], guard := none }) rfl (fun K hK => ?_) AllReadyH.nil)
      · go_simp
        refine hK.out _ _ hHeld (fun hHeld => ?_)
        clear hK K
        try simp only [Act.put, List.setIfInBounds_toArray, List.set_cons_zero, List.set_cons_succ]
        refine wpAnyH_ready (rs := [11]) (by kernel_rfl) (by simp) ?_
        refine AllReadyH.cons (o := { dst := some 108, op := Op.call { callee := Callee.value (Operand.func 14), args := #[Operand.tmp 107, Operand.const (Value.string { data := #[38] })], argTypes := #[61, 9] }, type := 9, pos := "handler.go:234", after := #[{ on := 10, ground := Ground.data }], guard := none }) rfl (fun K hK => ?_) AllReadyH.nil
        go_simp
        refine JRR.out.mono ?_
        rintro e xj ⟨rfl, hbj⟩
        have sj : xq.heap.size ≤ xj.heap.size := hbj.size
        have LJ := hide (HQ.out.below ((Below.refl _ _).drew.trans hbj))
        have f4 : xj.cell? ⟨w.heap.size + 1, 4, none⟩ = some (.pointer (some ⟨L, 0, none⟩)) := (cell_of_row xj _ 4 _ 29 _ LJ.out.d).trans HD4.out
        have f1 : xj.cell? ⟨xa.heap.size, 1, none⟩ = some (.string (C k).label) := (hbj.cell (p := ⟨xa.heap.size, 1, none⟩) la).trans e1
        have fL : xj.cell? ⟨L, 0, none⟩ = some lv := cell_of_row xj _ 0 _ 37 _ LJ.out.l
        try dsimp only
        clear hHeld
        refine hK.out _ _ ⟨f4, f1⟩ (fun hHeld => ?_)
        clear hK K
        try simp only [Act.put, List.setIfInBounds_toArray, List.set_cons_zero, List.set_cons_succ]
        refine wpAnyH_take (i := 12) (oi := { dst := some 109, op := Op.binOp BinOp.add 9 (Operand.tmp 106) (Operand.tmp 108) 9, type := 9, pos := "handler.go:234", after := #[{ on := 9, ground := Ground.data }, { on := 11, ground := Ground.data }], guard := none }) (v := ?_) rfl (by kernel_rfl) (by kernel_rfl) (by kernel_rfl) (fun _ _ _ h => h) (Or.inl ⟨by rfl, ?_⟩) hHeld ?_
        rotate_left
        · (intro w' hSw; obtain ⟨s1, s2⟩ := hSw; go_simp; try (with_reducible rfl))
        try simp only [Act.put, List.setIfInBounds_toArray, List.set_cons_zero, List.set_cons_succ]
        refine wpAnyH_take (i := 14) (oi := { dst := some 111, op := Op.build 40 #[(0, Operand.tmp 105), (1, Operand.tmp 109), (2, Operand.tmp 110)], type := 40, pos := "handler.go:234", after := #[{ on := 8, ground := Ground.data }, { on := 12, ground := Ground.data }, { on := 13, ground := Ground.data }], guard := none }) (v := ?_) rfl (by kernel_rfl) (by kernel_rfl) (by kernel_rfl) (fun _ _ _ h => h) (Or.inl ⟨by rfl, ?_⟩) hHeld ?_
        rotate_left
        · (intro w' hSw; obtain ⟨s1, s2⟩ := hSw; go_simp; try (with_reducible rfl))
        try simp only [Act.put, List.setIfInBounds_toArray, List.set_cons_zero, List.set_cons_succ]
        refine wpAnyH_ready (rs := [15]) (by kernel_rfl) (by simp) ?_
        refine AllReadyH.cons (o := { dst := some 112, op := Op.buildSlice 35 1 #[(0, Operand.tmp 111)], type := 35, pos := "handler.go:234", after := #[{ on := 14, ground := Ground.data }], guard := none }) rfl (fun K hK => ?_) AllReadyH.nil
        go_simp
        clear hHeld
        have LA := hide (LJ.out.alloc (.cells #[.string (C k).label, .string (hr ++ jb), .slice po ni pc] 40))
        have aL : (xj.alloc (.cells #[.string (C k).label, .string (hr ++ jb), .slice po ni pc] 40)).cell? ⟨L, 0, none⟩ = some lv := cell_of_row _ _ 0 _ 37 _ LA.out.l
        refine hK.out _ _ ⟨(cell_of_row _ _ 4 _ 29 _ LA.out.d).trans HD4.out, (((Below.refl _ xj).alloc (Nat.le_refl _) _).cell (p := ⟨xa.heap.size, 1, none⟩) (by show xa.heap.size < _; omega)).trans f1⟩ (fun hHeld => ?_)
        clear hK K
        try simp only [Act.put, List.setIfInBounds_toArray, List.set_cons_zero, List.set_cons_succ]
        refine wpAnyH_ready (rs := [16]) (by kernel_rfl) (by simp) ?_
        refine AllReadyH.cons (o := { dst := some 113, op := Op.call { callee := Callee.builtin Builtin.append, args := #[Operand.tmp 103, Operand.tmp 112], argTypes := #[35, 35] }, type := 35, pos := "handler.go:234", after := #[{ on := 6, ground := Ground.data }, { on := 15, ground := Ground.data }, { on := 11, ground := Ground.chain }], guard := none }) rfl (fun K hK => ?_) AllReadyH.nil
        refine step_append_lies _ (by rfl) (.tmp 103) (.tmp 112) 35 (by rfl) (w.heap.size + 2) 40 i0 _ 3 56 Try.underlying35 HI.out hz0 hz1 hz2 (by rfl) (by omega) lv k (flatL hr C I ni (.slice po ni pc) k) (by rfl) LA.out.k ⟨xj.heap.size, 0, none⟩ 1 1 [.string (C k).label, .string (hr ++ jb), .slice po ni pc] (by rfl) (by rfl) (World.news_of_block (heap_alloc_new xj _)) (by simp [Value.oneCell']) (by omega) (by simp only [maxLen]; omega) (by omega) LA.out.sz _ (by rfl) ?_
        intro g2 cap2 xl hownl hgrowl hatl hltl
        clear hHeld hatl hltl
        have kL : xl.heap[L]? = some (.cells #[lv] 37 (0, 0)) := (grown_far LA.out.k hgrowl LA.out.l (by decide)).trans LA.out.l
        have kd : xl.heap[w.heap.size + 1]? = some (.cells dc 29 (0, 0)) := (grown_far LA.out.k hgrowl LA.out.d (by decide)).trans LA.out.d
        have kc : xl.heap[xa.heap.size]? = some (.cells #[.string (C k).id, .string (C k).label] 67 (0, 0)) := (grown_far LA.out.k hgrowl ((Below.heap_alloc _ _ _ (by omega)).trans ((hbj.block _ la).trans HBLK.out)) (by decide)).trans ((Below.heap_alloc _ _ _ (by omega)).trans ((hbj.block _ la).trans HBLK.out))
        have HG := hide hgrowl
        have HO := hide hownl
        have gL : xl.cell? ⟨L, 0, none⟩ = some lv := cell_of_row xl _ 0 _ 37 _ kL
        have fzL : xl.frozen? ⟨L, 0, none⟩ = false := frozen_of_row xl _ 0 _ 37 kL
        have g4 : xl.cell? ⟨w.heap.size + 1, 4, none⟩ = some (.pointer (some ⟨L, 0, none⟩)) := (cell_of_row xl _ 4 _ 29 _ kd).trans HD4.out
        have g1 : xl.cell? ⟨xa.heap.size, 1, none⟩ = some (.string (C k).label) := cell_of_row xl _ 1 _ 67 _ kc
        clear kL kd kc hgrowl hownl
        refine hK.out _ _ ⟨g4, g1⟩ (fun hHeld => ?_)
        clear hK K
        try simp only [Act.put, List.setIfInBounds_toArray, List.set_cons_zero, List.set_cons_succ]
        refine wpAnyH_take (i := 17) (oi := { dst := some 114, op := Op.nilCheck (Operand.tmp 98), type := 0, pos := "handler.go:234", after := #[{ on := 1, ground := Ground.data }, { on := 0, ground := Ground.phase }, { on := 1, ground := Ground.phase }, { on := 2, ground := Ground.phase }, { on := 3, ground := Ground.phase }, { on := 4, ground := Ground.phase }, { on := 5, ground := Ground.phase }, { on := 6, ground := Ground.phase }, { on := 7, ground := Ground.phase }, { on := 8, ground := Ground.phase }, { on := 9, ground := Ground.phase }, { on := 10, ground := Ground.phase }, { on := 11, ground := Ground.phase }, { on := 12, ground := Ground.phase }, { on := 13, ground := Ground.phase }, { on := 14, ground := Ground.phase }, { on := 15, ground := Ground.phase }, { on := 16, ground := Ground.phase }], guard := none }) (v := ?_) rfl (by kernel_rfl) (by kernel_rfl) (by kernel_rfl) (fun _ _ _ h => h) (Or.inl ⟨by rfl, ?_⟩) hHeld ?_
        rotate_left
        · (intro w' hSw; obtain ⟨s1, s2⟩ := hSw; go_simp; try (with_reducible rfl))
        try simp only [Act.put, List.setIfInBounds_toArray, List.set_cons_zero, List.set_cons_succ]
        refine wpAnyH_take (i := 18) (oi := { dst := some 115, op := Op.fieldAddr 37 (Operand.tmp 114) 0, type := 0, pos := "handler.go:234", after := #[{ on := 17, ground := Ground.data }, { on := 0, ground := Ground.phase }, { on := 1, ground := Ground.phase }, { on := 2, ground := Ground.phase }, { on := 3, ground := Ground.phase }, { on := 4, ground := Ground.phase }, { on := 5, ground := Ground.phase }, { on := 6, ground := Ground.phase }, { on := 7, ground := Ground.phase }, { on := 8, ground := Ground.phase }, { on := 9, ground := Ground.phase }, { on := 10, ground := Ground.phase }, { on := 11, ground := Ground.phase }, { on := 12, ground := Ground.phase }, { on := 13, ground := Ground.phase }, { on := 14, ground := Ground.phase }, { on := 15, ground := Ground.phase }, { on := 16, ground := Ground.phase }], guard := none }) (v := ?_) rfl (by kernel_rfl) (by kernel_rfl) (by kernel_rfl) (fun _ _ _ h => h) (Or.inl ⟨by rfl, ?_⟩) hHeld ?_
        rotate_left
        · (intro w' hSw; obtain ⟨s1, s2⟩ := hSw; go_simp; try (with_reducible rfl))
        try simp only [Act.put, List.setIfInBounds_toArray, List.set_cons_zero, List.set_cons_succ]
        refine wpAnyH_ready (rs := [19]) (by kernel_rfl) (by simp) ?_
        refine AllReadyH.cons (o := { dst := none, op := Op.store 35 (Operand.tmp 115) (Operand.tmp 113), type := 0, pos := "handler.go:234", after := #[{ on := 18, ground := Ground.data }, { on := 16, ground := Ground.data }, { on := 16, ground := Ground.chain }, { on := 0, ground := Ground.phase }, { on := 1, ground := Ground.phase }, { on := 2, ground := Ground.phase }, { on := 3, ground := Ground.phase }, { on := 4, ground := Ground.phase }, { on := 5, ground := Ground.phase }, { on := 6, ground := Ground.phase }, { on := 7, ground := Ground.phase }, { on := 8, ground := Ground.phase }, { on := 9, ground := Ground.phase }, { on := 10, ground := Ground.phase }, { on := 11, ground := Ground.phase }, { on := 12, ground := Ground.phase }, { on := 13, ground := Ground.phase }, { on := 14, ground := Ground.phase }, { on := 15, ground := Ground.phase }, { on := 16, ground := Ground.phase }], guard := none }) rfl (fun K hK => ?_) AllReadyH.nil
        go_simp
        clear hHeld
        refine hK.out _ _ ⟨(World.cell?_setCell_other _ _ _ _ (by simp <;> omega)).trans g4, (World.cell?_setCell_other _ _ _ _ (by simp <;> omega)).trans g1⟩ (fun hHeld => ?_)
        clear hK K
        refine wpAnyH_done (by kernel_rfl) ?_ _
        refine NoPanic.normal ?_
        subst hjb
        have LG := hide (Lk.grow LA.out HG.out HO.out)
        clear LA HG HO LJ JRR HQ
        go_wp2_with fail
        go_roundw
        case rel => exact ⟨k + 1, _, by omega, by go_num, LG⟩
        case measure => simp [intOf] <;> omega
      · go_simp
        refine JRR.out.mono ?_
        rintro e xj ⟨rfl, hbj⟩
        have sj : xq.heap.size ≤ xj.heap.size := hbj.size
        have LJ := hide (HQ.out.below ((Below.refl _ _).drew.trans hbj))
        have f4 : xj.cell? ⟨w.heap.size + 1, 4, none⟩ = some (.pointer (some ⟨L, 0, none⟩)) := (cell_of_row xj _ 4 _ 29 _ LJ.out.d).trans HD4.out
        have f1 : xj.cell? ⟨xa.heap.size, 1, none⟩ = some (.string (C k).label) := (hbj.cell (p := ⟨xa.heap.size, 1, none⟩) la).trans e1
        have fL : xj.cell? ⟨L, 0, none⟩ = some lv := cell_of_row xj _ 0 _ 37 _ LJ.out.l
        try dsimp only
        clear hHeld
        refine hK.out _ _ ⟨f4, f1⟩ (fun hHeld => ?_)
        clear hK K
        try simp only [Act.put, List.setIfInBounds_toArray, List.set_cons_zero, List.set_cons_succ]
        refine wpAnyH_take (i := 12) (oi := { dst := some 109, op := Op.binOp BinOp.add 9 (Operand.tmp 106) (Operand.tmp 108) 9, type := 9, pos := "handler.go:234", after := #[{ on := 9, ground := Ground.data }, { on := 11, ground := Ground.data }], guard := none }) (v := ?_) rfl (by kernel_rfl) (by kernel_rfl) (by kernel_rfl) (fun _ _ _ h => h) (Or.inl ⟨by rfl, ?_⟩) hHeld ?_
        rotate_left
        · (intro w' hSw; obtain ⟨s1, s2⟩ := hSw; go_simp; try (with_reducible rfl))
        try simp only [Act.put, List.setIfInBounds_toArray, List.set_cons_zero, List.set_cons_succ]
        refine wpAnyH_take (i := 14) (oi := { dst := some 111, op := Op.build 40 #[(0, Operand.tmp 105), (1, Operand.tmp 109), (2, Operand.tmp 110)], type := 40, pos := "handler.go:234", after := #[{ on := 8, ground := Ground.data }, { on := 12, ground := Ground.data }, { on := 13, ground := Ground.data }], guard := none }) (v := ?_) rfl (by kernel_rfl) (by kernel_rfl) (by kernel_rfl) (fun _ _ _ h => h) (Or.inl ⟨by rfl, ?_⟩) hHeld ?_
        rotate_left
        · (intro w' hSw; obtain ⟨s1, s2⟩ := hSw; go_simp; try (with_reducible rfl))
        try simp only [Act.put, List.setIfInBounds_toArray, List.set_cons_zero, List.set_cons_succ]
        refine wpAnyH_ready (rs := [6, 15]) (by kernel_rfl) (by simp) ?_
        refine AllReadyH.cons (o := { dst := some 103, op := Op.load 35 (Operand.tmp 102), type := 35, pos := "handler.go:234", after := #[{ on := 5, ground := Ground.data }], guard := none }) rfl (fun K hK => ?_) (AllReadyH.cons (o := { dst := some 112, op := Op.buildSlice 35 1 #[(0, Operand.tmp 111)], type := 35, pos := "handler.go:234", after := #[{ on := 14, ground := Ground.data }], guard := none }) rfl (fun K hK => ?_) AllReadyH.nil)
        · go_simp
          refine hK.out _ _ hHeld (fun hHeld => ?_)
          clear hK K
          try simp only [Act.put, List.setIfInBounds_toArray, List.set_cons_zero, List.set_cons_succ]
          refine wpAnyH_ready (rs := [15]) (by kernel_rfl) (by simp) ?_
          refine AllReadyH.cons (o := { dst := some 112, op := Op.buildSlice 35 1 #[(0, Operand.tmp 111)], type := 35, pos := "handler.go:234", after := #[{ on := 14, ground := Ground.data }], guard := none }) rfl (fun K hK => ?_) AllReadyH.nil
          go_simp
          clear hHeld
          have LA := hide (LJ.out.alloc (.cells #[.string (C k).label, .string (hr ++ jb), .slice po ni pc] 40))
          have aL : (xj.alloc (.cells #[.string (C k).label, .string (hr ++ jb), .slice po ni pc] 40)).cell? ⟨L, 0, none⟩ = some lv := cell_of_row _ _ 0 _ 37 _ LA.out.l
          refine hK.out _ _ ⟨(cell_of_row _ _ 4 _ 29 _ LA.out.d).trans HD4.out, (((Below.refl _ xj).alloc (Nat.le_refl _) _).cell (p := ⟨xa.heap.size, 1, none⟩) (by show xa.heap.size < _; omega)).trans f1⟩ (fun hHeld => ?_)
          clear hK K
          try simp only [Act.put, List.setIfInBounds_toArray, List.set_cons_zero, List.set_cons_succ]
          refine wpAnyH_ready (rs := [16]) (by kernel_rfl) (by simp) ?_
          refine AllReadyH.cons (o := { dst := some 113, op := Op.call { callee := Callee.builtin Builtin.append, args := #[Operand.tmp 103, Operand.tmp 112], argTypes := #[35, 35] }, type := 35, pos := "handler.go:234", after := #[{ on := 6, ground := Ground.data }, { on := 15, ground := Ground.data }, { on := 11, ground := Ground.chain }], guard := none }) rfl (fun K hK => ?_) AllReadyH.nil
          refine step_append_lies _ (by rfl) (.tmp 103) (.tmp 112) 35 (by rfl) (w.heap.size + 2) 40 i0 _ 3 56 Try.underlying35 HI.out hz0 hz1 hz2 (by rfl) (by omega) lv k (flatL hr C I ni (.slice po ni pc) k) (by rfl) LA.out.k ⟨xj.heap.size, 0, none⟩ 1 1 [.string (C k).label, .string (hr ++ jb), .slice po ni pc] (by rfl) (by rfl) (World.news_of_block (heap_alloc_new xj _)) (by simp [Value.oneCell']) (by omega) (by simp only [maxLen]; omega) (by omega) LA.out.sz _ (by rfl) ?_
          intro g2 cap2 xl hownl hgrowl hatl hltl
          clear hHeld hatl hltl
          have kL : xl.heap[L]? = some (.cells #[lv] 37 (0, 0)) := (grown_far LA.out.k hgrowl LA.out.l (by decide)).trans LA.out.l
          have kd : xl.heap[w.heap.size + 1]? = some (.cells dc 29 (0, 0)) := (grown_far LA.out.k hgrowl LA.out.d (by decide)).trans LA.out.d
          have kc : xl.heap[xa.heap.size]? = some (.cells #[.string (C k).id, .string (C k).label] 67 (0, 0)) := (grown_far LA.out.k hgrowl ((Below.heap_alloc _ _ _ (by omega)).trans ((hbj.block _ la).trans HBLK.out)) (by decide)).trans ((Below.heap_alloc _ _ _ (by omega)).trans ((hbj.block _ la).trans HBLK.out))
          have HG := hide hgrowl
          have HO := hide hownl
          have gL : xl.cell? ⟨L, 0, none⟩ = some lv := cell_of_row xl _ 0 _ 37 _ kL
          have fzL : xl.frozen? ⟨L, 0, none⟩ = false := frozen_of_row xl _ 0 _ 37 kL
          have g4 : xl.cell? ⟨w.heap.size + 1, 4, none⟩ = some (.pointer (some ⟨L, 0, none⟩)) := (cell_of_row xl _ 4 _ 29 _ kd).trans HD4.out
          have g1 : xl.cell? ⟨xa.heap.size, 1, none⟩ = some (.string (C k).label) := cell_of_row xl _ 1 _ 67 _ kc
          clear kL kd kc hgrowl hownl
          refine hK.out _ _ ⟨g4, g1⟩ (fun hHeld => ?_)
          clear hK K
          try simp only [Act.put, List.setIfInBounds_toArray, List.set_cons_zero, List.set_cons_succ]
          refine wpAnyH_take (i := 17) (oi := { dst := some 114, op := Op.nilCheck (Operand.tmp 98), type := 0, pos := "handler.go:234", after := #[{ on := 1, ground := Ground.data }, { on := 0, ground := Ground.phase }, { on := 1, ground := Ground.phase }, { on := 2, ground := Ground.phase }, { on := 3, ground := Ground.phase }, { on := 4, ground := Ground.phase }, { on := 5, ground := Ground.phase }, { on := 6, ground := Ground.phase }, { on := 7, ground := Ground.phase }, { on := 8, ground := Ground.phase }, { on := 9, ground := Ground.phase }, { on := 10, ground := Ground.phase }, { on := 11, ground := Ground.phase }, { on := 12, ground := Ground.phase }, { on := 13, ground := Ground.phase }, { on := 14, ground := Ground.phase }, { on := 15, ground := Ground.phase }, { on := 16, ground := Ground.phase }], guard := none }) (v := ?_) rfl (by kernel_rfl) (by kernel_rfl) (by kernel_rfl) (fun _ _ _ h => h) (Or.inl ⟨by rfl, ?_⟩) hHeld ?_
          rotate_left
          · (intro w' hSw; obtain ⟨s1, s2⟩ := hSw; go_simp; try (with_reducible rfl))
          try simp only [Act.put, List.setIfInBounds_toArray, List.set_cons_zero, List.set_cons_succ]
          refine wpAnyH_take (i := 18) (oi := { dst := some 115, op := Op.fieldAddr 37 (Operand.tmp 114) 0, type := 0, pos := "handler.go:234", after := #[{ on := 17, ground := Ground.data }, { on := 0, ground := Ground.phase }, { on := 1, ground := Ground.phase }, { on := 2, ground := Ground.phase }, { on := 3, ground := Ground.phase }, { on := 4, ground := Ground.phase }, { on := 5, ground := Ground.phase }, { on := 6, ground := Ground.phase }, { on := 7, ground := Ground.phase }, { on := 8, ground := Ground.phase }, { on := 9, ground := Ground.phase }, { on := 10, ground := Ground.phase }, { on := 11, ground := Ground.phase }, { on := 12, ground := Ground.phase }, { on := 13, ground := Ground.phase }, { on := 14, ground := Ground.phase }, { on := 15, ground := Ground.phase }, { on := 16, ground := Ground.phase }], guard := none }) (v := ?_) rfl (by kernel_rfl) (by kernel_rfl) (by kernel_rfl) (fun _ _ _ h => h) (Or.inl ⟨by rfl, ?_⟩) hHeld ?_
          rotate_left
          · (intro w' hSw; obtain ⟨s1, s2⟩ := hSw; go_simp; try (with_reducible rfl))
          try simp only [Act.put, List.setIfInBounds_toArray, List.set_cons_zero, List.set_cons_succ]
          refine wpAnyH_ready (rs := [19]) (by kernel_rfl) (by simp) ?_
          refine AllReadyH.cons (o := { dst := none, op := Op.store 35 (Operand.tmp 115) (Operand.tmp 113), type := 0, pos := "handler.go:234", after := #[{ on := 18, ground := Ground.data }, { on := 16, ground := Ground.data }, { on := 16, ground := Ground.chain }, { on := 0, ground := Ground.phase }, { on := 1, ground := Ground.phase }, { on := 2, ground := Ground.phase }, { on := 3, ground := Ground.phase }, { on := 4, ground := Ground.phase }, { on := 5, ground := Ground.phase }, { on := 6, ground := Ground.phase }, { on := 7, ground := Ground.phase }, { on := 8, ground := Ground.phase }, { on := 9, ground := Ground.phase }, { on := 10, ground := Ground.phase }, { on := 11, ground := Ground.phase }, { on := 12, ground := Ground.phase }, { on := 13, ground := Ground.phase }, { on := 14, ground := Ground.phase }, { on := 15, ground := Ground.phase }, { on := 16, ground := Ground.phase }], guard := none }) rfl (fun K hK => ?_) AllReadyH.nil
          go_simp
          clear hHeld
          refine hK.out _ _ ⟨(World.cell?_setCell_other _ _ _ _ (by simp <;> omega)).trans g4, (World.cell?_setCell_other _ _ _ _ (by simp <;> omega)).trans g1⟩ (fun hHeld => ?_)
          clear hK K
          refine wpAnyH_done (by kernel_rfl) ?_ _
          refine NoPanic.normal ?_
          subst hjb
          have LG := hide (Lk.grow LA.out HG.out HO.out)
          clear LA HG HO LJ JRR HQ
          go_wp2_with fail
          go_roundw
          case rel => exact ⟨k + 1, _, by omega, by go_num, LG⟩
          case measure => simp [intOf] <;> omega
        · go_simp
          clear hHeld
          have LA := hide (LJ.out.alloc (.cells #[.string (C k).label, .string (hr ++ jb), .slice po ni pc] 40))
          have aL : (xj.alloc (.cells #[.string (C k).label, .string (hr ++ jb), .slice po ni pc] 40)).cell? ⟨L, 0, none⟩ = some lv := cell_of_row _ _ 0 _ 37 _ LA.out.l
          refine hK.out _ _ ⟨(cell_of_row _ _ 4 _ 29 _ LA.out.d).trans HD4.out, (((Below.refl _ xj).alloc (Nat.le_refl _) _).cell (p := ⟨xa.heap.size, 1, none⟩) (by show xa.heap.size < _; omega)).trans f1⟩ (fun hHeld => ?_)
          clear hK K
          try simp only [Act.put, List.setIfInBounds_toArray, List.set_cons_zero, List.set_cons_succ]
          refine wpAnyH_ready (rs := [6]) (by kernel_rfl) (by simp) ?_
          refine AllReadyH.cons (o := { dst := some 103, op := Op.load 35 (Operand.tmp 102), type := 35, pos := "handler.go:234", after := #[{ on := 5, ground := Ground.data }], guard := none }) rfl (fun K hK => ?_) AllReadyH.nil
          go_simp
          refine hK.out _ _ hHeld (fun hHeld => ?_)
          clear hK K
          try simp only [Act.put, List.setIfInBounds_toArray, List.set_cons_zero, List.set_cons_succ]
          refine wpAnyH_ready (rs := [16]) (by kernel_rfl) (by simp) ?_
          refine AllReadyH.cons (o := { dst := some 113, op := Op.call { callee := Callee.builtin Builtin.append, args := #[Operand.tmp 103, Operand.tmp 112], argTypes := #[35, 35] }, type := 35, pos := "handler.go:234", after := #[{ on := 6, ground := Ground.data }, { on := 15, ground := Ground.data }, { on := 11, ground := Ground.chain }], guard := none }) rfl (fun K hK => ?_) AllReadyH.nil
          refine step_append_lies _ (by rfl) (.tmp 103) (.tmp 112) 35 (by rfl) (w.heap.size + 2) 40 i0 _ 3 56 Try.underlying35 HI.out hz0 hz1 hz2 (by rfl) (by omega) lv k (flatL hr C I ni (.slice po ni pc) k) (by rfl) LA.out.k ⟨xj.heap.size, 0, none⟩ 1 1 [.string (C k).label, .string (hr ++ jb), .slice po ni pc] (by rfl) (by rfl) (World.news_of_block (heap_alloc_new xj _)) (by simp [Value.oneCell']) (by omega) (by simp only [maxLen]; omega) (by omega) LA.out.sz _ (by rfl) ?_
          intro g2 cap2 xl hownl hgrowl hatl hltl
          clear hHeld hatl hltl
          have kL : xl.heap[L]? = some (.cells #[lv] 37 (0, 0)) := (grown_far LA.out.k hgrowl LA.out.l (by decide)).trans LA.out.l
          have kd : xl.heap[w.heap.size + 1]? = some (.cells dc 29 (0, 0)) := (grown_far LA.out.k hgrowl LA.out.d (by decide)).trans LA.out.d
          have kc : xl.heap[xa.heap.size]? = some (.cells #[.string (C k).id, .string (C k).label] 67 (0, 0)) := (grown_far LA.out.k hgrowl ((Below.heap_alloc _ _ _ (by omega)).trans ((hbj.block _ la).trans HBLK.out)) (by decide)).trans ((Below.heap_alloc _ _ _ (by omega)).trans ((hbj.block _ la).trans HBLK.out))
          have HG := hide hgrowl
          have HO := hide hownl
          have gL : xl.cell? ⟨L, 0, none⟩ = some lv := cell_of_row xl _ 0 _ 37 _ kL
          have fzL : xl.frozen? ⟨L, 0, none⟩ = false := frozen_of_row xl _ 0 _ 37 kL
          have g4 : xl.cell? ⟨w.heap.size + 1, 4, none⟩ = some (.pointer (some ⟨L, 0, none⟩)) := (cell_of_row xl _ 4 _ 29 _ kd).trans HD4.out
          have g1 : xl.cell? ⟨xa.heap.size, 1, none⟩ = some (.string (C k).label) := cell_of_row xl _ 1 _ 67 _ kc
          clear kL kd kc hgrowl hownl
          refine hK.out _ _ ⟨g4, g1⟩ (fun hHeld => ?_)
          clear hK K
          try simp only [Act.put, List.setIfInBounds_toArray, List.set_cons_zero, List.set_cons_succ]
          refine wpAnyH_take (i := 17) (oi := { dst := some 114, op := Op.nilCheck (Operand.tmp 98), type := 0, pos := "handler.go:234", after := #[{ on := 1, ground := Ground.data }, { on := 0, ground := Ground.phase }, { on := 1, ground := Ground.phase }, { on := 2, ground := Ground.phase }, { on := 3, ground := Ground.phase }, { on := 4, ground := Ground.phase }, { on := 5, ground := Ground.phase }, { on := 6, ground := Ground.phase }, { on := 7, ground := Ground.phase }, { on := 8, ground := Ground.phase }, { on := 9, ground := Ground.phase }, { on := 10, ground := Ground.phase }, { on := 11, ground := Ground.phase }, { on := 12, ground := Ground.phase }, { on := 13, ground := Ground.phase }, { on := 14, ground := Ground.phase }, { on := 15, ground := Ground.phase }, { on := 16, ground := Ground.phase }], guard := none }) (v := ?_) rfl (by kernel_rfl) (by kernel_rfl) (by kernel_rfl) (fun _ _ _ h => h) (Or.inl ⟨by rfl, ?_⟩) hHeld ?_
          rotate_left
          · (intro w' hSw; obtain ⟨s1, s2⟩ := hSw; go_simp; try (with_reducible rfl))
          try simp only [Act.put, List.setIfInBounds_toArray, List.set_cons_zero, List.set_cons_succ]
          refine wpAnyH_take (i := 18) (oi := { dst := some 115, op := Op.fieldAddr 37 (Operand.tmp 114) 0, type := 0, pos := "handler.go:234", after := #[{ on := 17, ground := Ground.data }, { on := 0, ground := Ground.phase }, { on := 1, ground := Ground.phase }, { on := 2, ground := Ground.phase }, { on := 3, ground := Ground.phase }, { on := 4, ground := Ground.phase }, { on := 5, ground := Ground.phase }, { on := 6, ground := Ground.phase }, { on := 7, ground := Ground.phase }, { on := 8, ground := Ground.phase }, { on := 9, ground := Ground.phase }, { on := 10, ground := Ground.phase }, { on := 11, ground := Ground.phase }, { on := 12, ground := Ground.phase }, { on := 13, ground := Ground.phase }, { on := 14, ground := Ground.phase }, { on := 15, ground := Ground.phase }, { on := 16, ground := Ground.phase }], guard := none }) (v := ?_) rfl (by kernel_rfl) (by kernel_rfl) (by kernel_rfl) (fun _ _ _ h => h) (Or.inl ⟨by rfl, ?_⟩) hHeld ?_
          rotate_left
          · (intro w' hSw; obtain ⟨s1, s2⟩ := hSw; go_simp; try (with_reducible rfl))
          try simp only [Act.put, List.setIfInBounds_toArray, List.set_cons_zero, List.set_cons_succ]
          refine wpAnyH_ready (rs := [19]) (by kernel_rfl) (by simp) ?_
          refine AllReadyH.cons (o := { dst := none, op := Op.store 35 (Operand.tmp 115) (Operand.tmp 113), type := 0, pos := "handler.go:234", after := #[{ on := 18, ground := Ground.data }, { on := 16, ground := Ground.data }, { on := 16, ground := Ground.chain }, { on := 0, ground := Ground.phase }, { on := 1, ground := Ground.phase }, { on := 2, ground := Ground.phase }, { on := 3, ground := Ground.phase }, { on := 4, ground := Ground.phase }, { on := 5, ground := Ground.phase }, { on := 6, ground := Ground.phase }, { on := 7, ground := Ground.phase }, { on := 8, ground := Ground.phase }, { on := 9, ground := Ground.phase }, { on := 10, ground := Ground.phase }, { on := 11, ground := Ground.phase }, { on := 12, ground := Ground.phase }, { on := 13, ground := Ground.phase }, { on := 14, ground := Ground.phase }, { on := 15, ground := Ground.phase }, { on := 16, ground := Ground.phase }], guard := none }) rfl (fun K hK => ?_) AllReadyH.nil
          go_simp
          clear hHeld
          refine hK.out _ _ ⟨(World.cell?_setCell_other _ _ _ _ (by simp <;> omega)).trans g4, (World.cell?_setCell_other _ _ _ _ (by simp <;> omega)).trans g1⟩ (fun hHeld => ?_)
          clear hK K
          refine wpAnyH_done (by kernel_rfl) ?_ _
          refine NoPanic.normal ?_
          subst hjb
          have LG := hide (Lk.grow LA.out HG.out HO.out)
          clear LA HG HO LJ JRR HQ
          go_wp2_with fail
          go_roundw
          case rel => exact ⟨k + 1, _, by omega, by go_num, LG⟩
          case measure => simp [intOf] <;> omega
    · have hlt' : (nc : Int) ≤ (k : Int) := by omega
      obtain rfl : nc = k := by omega
      go_wp2_with fail
      exact HX.out _ _ _ _ _ _ _ _ _ _ _ _ _ _ _ _ _ _ _ _ _ _ _ _ _ _ _ _ _ _ _ _ _ HL.out
end Go.Proofs.Qxb6605826a
