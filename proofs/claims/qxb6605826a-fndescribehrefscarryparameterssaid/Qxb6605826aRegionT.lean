/-
  describe's region 20: the one link of an action without choices.
-/
import Derived.Test.Qxb6605826aTold
import Derived.Deep.RegionHeld3
namespace Go.Proofs.Qxb6605826a
open Go.RowKit

/-- The region of that number. -/
def regionIn (n : Nat) : Code → Option Code
  | .region i ops d => if i = n then some (.region i ops d) else none
  | .loop c => regionIn n c
  | .seq a b => match regionIn n a with
    | some c => some c
    | none => regionIn n b
  | .block _ c => regionIn n c
  | .scope c => regionIn n c
  | .cond _ a b => match regionIn n a with
    | some c => some c
    | none => regionIn n b
  | _ => none
def regionAt (c : Option Code) (n : Nat) : Code := match c with
  | some c => (regionIn n c).getD .skip
  | none => .skip

set_option maxRecDepth 1000000 in
set_option maxHeartbeats 2000000 in
theorem region20 (Q : Exit → Act → World → Prop) (w wr : World) (A fg fcap : Nat) (dc rc : Array Value) (po : Option Addr) (ni pc : Nat) (I : Nat → Inp) (hb jb label : ByteArray) (c0 c2 c3 c4 c8 c9 c11 c12 c13 c14 c15 c16 c17 c18 c19 c20 c21 c22 c23 c24 c25 c26 c27 c28 c29 c30 c31 c32 c33 c34 c35 c36 c37 c38 c39 c40 c41 c42 c43 c44 c45 c46 c47 c48 c49 c50 c51 c52 c53 c54 c55 c56 c57 c58 c59 c60 c61 c62 c63 c64 c65 c66 c67 c68 c69 c70 c71 c72 c73 c74 c75 c76 c77 c78 c79 c80 c81 c82 c83 c84 c85 c86 c87 c88 c89 c90 c91 c92 c93 c94 c95 c96 c97 c98 c99 c100 c101 c102 c103 c104 c105 c106 c107 c108 c109 c110 c111 c112 c113 c114 c115 c116 c117 c118 c119 c120 c121 c122 c123 c124 c125 c126 c127 c128 c129 c130 c131 c132 c133 c134 c135 c136 c137 c138 : Value)
    (HL : Lp w wr dc rc (.slice po ni pc) (.slice (some ⟨fg, 0, none⟩) ni fcap) ni I) (hdc : dc[4]? = some (.pointer none)) (lA : A < w.heap.size) (q3 : w.cell? ⟨A, 3, none⟩ = some (.string label)) (hcat : ¬ 9223372036854775807 < hb.size + jb.size)
    (JR : Calls Try.prog 14 #[.slice (some ⟨fg, 0, none⟩) ni fcap, .string ⟨#[38]⟩] wr.drew fun e w' => e = .returned (.string jb) ∧ Below wr.drew.heap.size wr.drew w')
    (hexit : ∀ (u124 u125 u126 u127 u128 u129 u130 u131 u132 u133 u134 u135 u136 u137 : Value) (xj : World), Lp w xj dc rc (.slice po ni pc) (.slice (some ⟨fg, 0, none⟩) ni fcap) ni I → Q .normal ⟨List.toArray (c0 :: .pointer (some ⟨A, 0, none⟩) :: c2 :: c3 :: c4 :: .pointer (some ⟨w.heap.size + 1, 0, none⟩) :: .slice po ni pc :: .slice (some ⟨fg, 0, none⟩) ni fcap :: c8 :: c9 :: .string hb :: c11 :: c12 :: c13 :: c14 :: c15 :: c16 :: c17 :: c18 :: c19 :: c20 :: c21 :: c22 :: c23 :: c24 :: c25 :: c26 :: c27 :: c28 :: c29 :: c30 :: c31 :: c32 :: c33 :: c34 :: c35 :: c36 :: c37 :: c38 :: c39 :: c40 :: c41 :: c42 :: c43 :: c44 :: c45 :: c46 :: c47 :: c48 :: c49 :: c50 :: c51 :: c52 :: c53 :: c54 :: c55 :: c56 :: c57 :: c58 :: c59 :: c60 :: c61 :: c62 :: c63 :: c64 :: c65 :: c66 :: c67 :: c68 :: c69 :: c70 :: c71 :: c72 :: c73 :: c74 :: c75 :: c76 :: c77 :: c78 :: c79 :: c80 :: c81 :: c82 :: c83 :: c84 :: c85 :: c86 :: c87 :: c88 :: c89 :: c90 :: c91 :: c92 :: c93 :: c94 :: c95 :: c96 :: c97 :: c98 :: c99 :: c100 :: c101 :: c102 :: c103 :: c104 :: c105 :: c106 :: c107 :: c108 :: c109 :: c110 :: c111 :: c112 :: c113 :: c114 :: c115 :: c116 :: c117 :: c118 :: c119 :: c120 :: c121 :: c122 :: c123 :: u124 :: u125 :: u126 :: u127 :: u128 :: u129 :: u130 :: u131 :: u132 :: u133 :: u134 :: u135 :: u136 :: u137 :: c138 :: []), []⟩ (((xj.alloc (.cells #[.string label, .string (hb ++ jb), .slice po ni pc] 40)).alloc (.cells #[.slice (some ⟨xj.heap.size, 0, none⟩) 1 1] 37)).setCell ⟨w.heap.size + 1, 4, none⟩ (.pointer (some ⟨xj.heap.size + 1, 0, none⟩)))) :
    Code.wp Try.prog (regionAt Try.f12.body 20) Q ⟨List.toArray (c0 :: .pointer (some ⟨A, 0, none⟩) :: c2 :: c3 :: c4 :: .pointer (some ⟨w.heap.size + 1, 0, none⟩) :: .slice po ni pc :: .slice (some ⟨fg, 0, none⟩) ni fcap :: c8 :: c9 :: .string hb :: c11 :: c12 :: c13 :: c14 :: c15 :: c16 :: c17 :: c18 :: c19 :: c20 :: c21 :: c22 :: c23 :: c24 :: c25 :: c26 :: c27 :: c28 :: c29 :: c30 :: c31 :: c32 :: c33 :: c34 :: c35 :: c36 :: c37 :: c38 :: c39 :: c40 :: c41 :: c42 :: c43 :: c44 :: c45 :: c46 :: c47 :: c48 :: c49 :: c50 :: c51 :: c52 :: c53 :: c54 :: c55 :: c56 :: c57 :: c58 :: c59 :: c60 :: c61 :: c62 :: c63 :: c64 :: c65 :: c66 :: c67 :: c68 :: c69 :: c70 :: c71 :: c72 :: c73 :: c74 :: c75 :: c76 :: c77 :: c78 :: c79 :: c80 :: c81 :: c82 :: c83 :: c84 :: c85 :: c86 :: c87 :: c88 :: c89 :: c90 :: c91 :: c92 :: c93 :: c94 :: c95 :: c96 :: c97 :: c98 :: c99 :: c100 :: c101 :: c102 :: c103 :: c104 :: c105 :: c106 :: c107 :: c108 :: c109 :: c110 :: c111 :: c112 :: c113 :: c114 :: c115 :: c116 :: c117 :: c118 :: c119 :: c120 :: c121 :: c122 :: c123 :: c124 :: c125 :: c126 :: c127 :: c128 :: c129 :: c130 :: c131 :: c132 :: c133 :: c134 :: c135 :: c136 :: c137 :: c138 :: []), []⟩ wr := by
  have q3' : wr.cell? ⟨A, 3, none⟩ = some (.string label) := (HL.bel.cell (p := ⟨A, 3, none⟩) lA).trans q3
  have Q3 := hide q3
  have JRR := hide JR
  have HX := hide hexit
  have HL := hide HL
  have HDC := hide hdc
  clear hexit JR hdc q3
  have ne : A ≠ w.heap.size + 1 := by omega
  conv => arg 2; whnf
  go_region_held3 (fun w' => w'.cell? ⟨A, 3, none⟩ = some (.string label))
    (first | go_keep | exact kA | exact k1 _ | exact k2 _ _ | exact k3 _ _ _)
    ((go_at_call 14; refine JRR.out.mono ?_; rintro e xj ⟨rfl, hbj⟩; have LJ := hide (HL.out.below ((Below.refl _ _).drew.trans hbj)); have kA : xj.cell? ⟨A, 3, none⟩ = some (.string label) := (LJ.out.bel.cell (p := ⟨A, 3, none⟩) lA).trans Q3.out; have k1 : ∀ o, (xj.alloc o).cell? ⟨A, 3, none⟩ = some (.string label) := (fun o => ((LJ.out.alloc o).bel.cell (p := ⟨A, 3, none⟩) lA).trans Q3.out); have k2 : ∀ o o', ((xj.alloc o).alloc o').cell? ⟨A, 3, none⟩ = some (.string label) := (fun o o' => (((LJ.out.alloc o).alloc o').bel.cell (p := ⟨A, 3, none⟩) lA).trans Q3.out); have k3 : ∀ o o' v, (((xj.alloc o).alloc o').setCell ⟨w.heap.size + 1, 4, none⟩ v).cell? ⟨A, 3, none⟩ = some (.string label) := (fun o o' v => (World.cell?_setCell_other _ _ _ _ (by simp <;> omega)).trans (k2 o o')); have p4 : ∀ o o', ((xj.alloc o).alloc o').cell? ⟨w.heap.size + 1, 4, none⟩ = some (.pointer none) := (fun o o' => (cell_of_row _ _ 4 _ 29 _ ((LJ.out.alloc o).alloc o').d).trans HDC.out); have p5 : ∀ o o', ((xj.alloc o).alloc o').frozen? ⟨w.heap.size + 1, 4, none⟩ = false := (fun o o' => frozen_of_row _ _ 4 _ 29 ((LJ.out.alloc o).alloc o').d)))
  exact HX.out _ _ _ _ _ _ _ _ _ _ _ _ _ _ _ LJ.out
end Go.Proofs.Qxb6605826a
