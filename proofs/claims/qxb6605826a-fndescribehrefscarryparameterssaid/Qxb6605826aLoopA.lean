/-
  describe's first loop.
-/
import Derived.Test.Qxb6605826aParams
import Derived.Deep.AppendLies
namespace Go.Proofs.Qxb6605826a
open Go.RowKit

/-- The loops' bodies of a function, from the text's first on. -/
def loopsOf : Code → List Code
  | .loop c => c :: loopsOf c
  | .seq a b => loopsOf a ++ loopsOf b
  | .block _ c => loopsOf c
  | .scope c => loopsOf c
  | .cond _ a b => loopsOf a ++ loopsOf b
  | _ => []
def loopAt (c : Option Code) (n : Nat) : Code := match c with
  | some c => (loopsOf c).getD n .skip
  | none => .skip

set_option maxRecDepth 1000000 in
set_option maxHeartbeats 2000000 in
theorem loop1 (Q : Exit → Act → World → Prop) (w w2 : World) (dc rc : Array Value) (io : Option Addr) (ni ic : Nat) (I : Nat → Inp) (c0 c1 c2 c3 c4 c5 c8 c9 c10 c11 c12 c13 c14 c15 c16 c17 c18 c19 c20 c21 c22 c23 c24 c25 c26 c27 c28 c29 c30 c31 c32 c33 c34 c35 c36 c37 c38 c42 c43 c44 c45 c46 c47 c48 c49 c50 c51 c52 c53 c54 c55 c56 c57 c58 c59 c60 c61 c62 c63 c64 c65 c66 c67 c68 c69 c70 c71 c72 c73 c74 c75 c76 c77 c78 c79 c80 c81 c82 c83 c84 c85 c86 c87 c88 c89 c90 c91 c92 c93 c94 c95 c96 c97 c98 c99 c100 c101 c102 c103 c104 c105 c106 c107 c108 c109 c110 c111 c112 c113 c114 c115 c116 c117 c118 c119 c120 c121 c122 c123 c124 c125 c126 c127 c128 c129 c130 c131 c132 c133 c134 c135 c136 c137 c138 : Value) (hin : InpsAt w io ni I) (hni : ni ≤ 4096) (hnm : ∀ j, j < ni → (I j).name.size ≤ 1048576) (L0 : Lp w w2 dc rc (.slice none 0 0) (.slice none 0 0) 0 I)
    (hexit : ∀ (u6 u7 u9 u42 u43 u44 u45 u46 u47 u48 u49 u50 u51 u52 u53 u54 u55 u56 u57 u58 u59 u60 u61 u62 u63 u64 u65 : Value) (wr : World), Lp w wr dc rc u6 u7 ni I → (ni = 0 → u7 = .slice none 0 0) → Q (.exit 0) ⟨List.toArray (c0 :: c1 :: c2 :: c3 :: c4 :: c5 :: u6 :: u7 :: c8 :: u9 :: c10 :: c11 :: c12 :: c13 :: c14 :: c15 :: c16 :: c17 :: c18 :: c19 :: c20 :: c21 :: c22 :: c23 :: c24 :: c25 :: c26 :: c27 :: c28 :: c29 :: c30 :: c31 :: c32 :: c33 :: c34 :: c35 :: c36 :: c37 :: c38 :: .slice io ni ic :: .int .i64 ni :: .int .i64 ni :: u42 :: u43 :: u44 :: u45 :: u46 :: u47 :: u48 :: u49 :: u50 :: u51 :: u52 :: u53 :: u54 :: u55 :: u56 :: u57 :: u58 :: u59 :: u60 :: u61 :: u62 :: u63 :: u64 :: u65 :: c66 :: c67 :: c68 :: c69 :: c70 :: c71 :: c72 :: c73 :: c74 :: c75 :: c76 :: c77 :: c78 :: c79 :: c80 :: c81 :: c82 :: c83 :: c84 :: c85 :: c86 :: c87 :: c88 :: c89 :: c90 :: c91 :: c92 :: c93 :: c94 :: c95 :: c96 :: c97 :: c98 :: c99 :: c100 :: c101 :: c102 :: c103 :: c104 :: c105 :: c106 :: c107 :: c108 :: c109 :: c110 :: c111 :: c112 :: c113 :: c114 :: c115 :: c116 :: c117 :: c118 :: c119 :: c120 :: c121 :: c122 :: c123 :: c124 :: c125 :: c126 :: c127 :: c128 :: c129 :: c130 :: c131 :: c132 :: c133 :: c134 :: c135 :: c136 :: c137 :: c138 :: []), []⟩ wr) :
    Code.wp Try.prog (.loop (loopAt Try.f12.body 0)) Q ⟨List.toArray (c0 :: c1 :: c2 :: c3 :: c4 :: c5 :: .slice none 0 0 :: .slice none 0 0 :: c8 :: c9 :: c10 :: c11 :: c12 :: c13 :: c14 :: c15 :: c16 :: c17 :: c18 :: c19 :: c20 :: c21 :: c22 :: c23 :: c24 :: c25 :: c26 :: c27 :: c28 :: c29 :: c30 :: c31 :: c32 :: c33 :: c34 :: c35 :: c36 :: c37 :: c38 :: .slice io ni ic :: .int .i64 ni :: .int .i64 (0 : Nat) :: c42 :: c43 :: c44 :: c45 :: c46 :: c47 :: c48 :: c49 :: c50 :: c51 :: c52 :: c53 :: c54 :: c55 :: c56 :: c57 :: c58 :: c59 :: c60 :: c61 :: c62 :: c63 :: c64 :: c65 :: c66 :: c67 :: c68 :: c69 :: c70 :: c71 :: c72 :: c73 :: c74 :: c75 :: c76 :: c77 :: c78 :: c79 :: c80 :: c81 :: c82 :: c83 :: c84 :: c85 :: c86 :: c87 :: c88 :: c89 :: c90 :: c91 :: c92 :: c93 :: c94 :: c95 :: c96 :: c97 :: c98 :: c99 :: c100 :: c101 :: c102 :: c103 :: c104 :: c105 :: c106 :: c107 :: c108 :: c109 :: c110 :: c111 :: c112 :: c113 :: c114 :: c115 :: c116 :: c117 :: c118 :: c119 :: c120 :: c121 :: c122 :: c123 :: c124 :: c125 :: c126 :: c127 :: c128 :: c129 :: c130 :: c131 :: c132 :: c133 :: c134 :: c135 :: c136 :: c137 :: c138 :: []), []⟩ w2 := by
  have HIn := hide hin
  obtain ⟨i0, hi, hz0, hz1, hz2⟩ := info_parts info42
  have HI := hide hi
  obtain ⟨j0, hj, hy0, hy1, hy2⟩ := info_parts info9
  have HJ := hide hj
  have HX := hide hexit
  have HNM := hide hnm
  clear hi hj hin hexit hnm
  conv => arg 2; arg 1; whnf
  go_loopw [6, 7, 41] (fun pv fv i wr => ∃ k : Nat, k ≤ ni ∧ i = .int .i64 k ∧ Hid (Lp w wr dc rc pv fv k I) ∧ Hid (k = 0 → fv = .slice none 0 0)) (fun _ _ i _ => ni - (intOf i).toNat)
  case atStart => exact ⟨0, Nat.zero_le _, rfl, L0, fun _ => rfl⟩
  case round =>
    clear L0
    rename World => wa
    obtain ⟨k, hk, rfl, HL, HF⟩ := hrel
    by_cases hlt : k < ni
    · have hlt' : (k : Int) < (ni : Int) := by omega
      obtain ⟨b, off, hio, hb, hc⟩ := HIn.out.resolve_left (by omega)
      subst hio
      have d0 := (HL.out.bel.cell (p := ⟨b, _, none⟩) hb).trans (hc k hlt).1
      have d1 := (HL.out.bel.cell (p := ⟨b, _, none⟩) hb).trans (hc k hlt).2.1
      have d2 := (HL.out.bel.cell (p := ⟨b, _, none⟩) hb).trans (hc k hlt).2.2
      clear hc
      have hns := HNM.out k hlt
      go_wp2_with (at_builtin; refine wpList_append_lies _ rfl (.tmp 45) (.tmp 53) 38 rfl (w.heap.size + 2) 42 i0 _ 3 40 Try.underlying38 HI.out hz0 hz1 hz2 rfl (by decide) u6 k (flatP I k) rfl ((HL.out.alloc _).alloc _).p ⟨wa.heap.size + 1, 0, none⟩ 1 1 [.string (I k).name, .string (I k).label, .bool (I k).req] rfl rfl (World.news_of_block (two_new _ _ _)) (by simp [Value.oneCell']) (by decide) (by unfold maxLen; omega) (by omega) ((HL.out.alloc _).alloc _).sz _ rfl ?_)
      intro g cap' w4 hown4 hgrow4 hat4 hlt4
      have hq := Lq.of ((HL.out.alloc _).alloc _) hgrow4 hown4
      have hblk : w4.heap[wa.heap.size]? = some (.cells #[.string (I k).name, .string (I k).label, .bool (I k).req] 68 (0, 0)) := (grown_far ((HL.out.alloc _).alloc _).p hgrow4 (two_old _ _ _) (by decide)).trans (two_old _ _ _)
      have e0 : w4.cell? ⟨wa.heap.size, 0, none⟩ = some (.string (I k).name) := cell_of_row w4 _ 0 _ 68 _ hblk
      have HQ := hide hq
      clear hq hblk hgrow4 hown4 hat4 hlt4 d0 d1 d2 HL
      go_wp2_with (at_builtin; refine wpList_append_lies _ rfl (.tmp 55) (.tmp 63) 61 rfl (w.heap.size + 2) 9 j0 _ 1 16 Try.underlying61 HJ.out hy0 hy1 hy2 rfl (by decide) u7 k (fills I k) rfl (HQ.out.alloc _).f ⟨w4.heap.size, 0, none⟩ 1 1 [.string (piece (I k).name)] rfl rfl (World.news_of_block (heap_alloc_new _ _)) (by simp [Value.oneCell']) (by decide) (by unfold maxLen; omega) (by omega) (HQ.out.alloc _).sz _ rfl ?_)
      intro g2 cap2 w5 hown5 hgrow5 hat5 hlt5
      have hp := Lp.of (HQ.out.alloc _) hgrow5 hown5
      have HP := hide hp
      clear hp hown5 hgrow5 hat5 hlt5 e0 HQ
      go_wp2_with fail
      go_roundw
      case rel => exact ⟨k + 1, by omega, by go_num, HP, fun h => by omega⟩
      case measure => simp [intOf] <;> omega
    · have hlt' : (ni : Int) ≤ (k : Int) := by omega
      obtain rfl : ni = k := by omega
      go_wp2_with fail
      exact HX.out _ _ _ _ _ _ _ _ _ _ _ _ _ _ _ _ _ _ _ _ _ _ _ _ _ _ _ _ HL.out HF.out
end Go.Proofs.Qxb6605826a
