/-
  The law FnViewSharesNoMemory, walked.
-/
import Derived.Test.Qxb6614540aViewJ
import Derived.RegionTactic
namespace Go.Proofs.Qxb6614540a.V
open Go.RowKit

/-- A slice's three words. -/
structure Sl where
  ca : Option Addr
  cl : Nat
  cc : Nat

/-- The entries of a view while they are written: row g, commands S; all from block O on and below block F. -/
structure Mut (x : World) (O F g n : Nat) (S : Nat → Sl) : Prop where
  ge : O ≤ g
  lt : g < F
  size : F < x.heap.size
  fz : ∀ j, x.frozen? ⟨g, j, none⟩ = false
  idx : ∀ i, i < n → ∃ ix, x.cell? ⟨g, i * 5, none⟩ = some (.int .u64 ix)
  sl : ∀ i, i < n → x.cell? ⟨g, i * 5 + 2, none⟩ = some (.slice (S i).ca (S i).cl (S i).cc)
  len : ∀ i, i < n → (S i).cl ≤ 1048576
  byt : ∀ i, i < n → (S i).cl = 0 ∨ ∃ b off, (S i).ca = some ⟨b, off, none⟩ ∧ O ≤ b ∧ b < F ∧ b ≠ g ∧ ∀ j, j < (S i).cl → (∃ y, x.cell? ⟨b, off + j, none⟩ = some (.int .u8 y)) ∧ x.frozen? ⟨b, off + j, none⟩ = false

theorem Mut.index {x : World} {O F g n : Nat} {S : Nat → Sl} (h : Mut x O F g n S) (k : Nat) (v : Int) : Mut (x.setCell ⟨g, k * 5, none⟩ (.int .u64 v)) O F g n S := by
  refine ⟨h.ge, h.lt, by simpa using h.size, fun j => by rw [World.frozen?_setCell]; exact h.fz j, fun i hi => ?_, fun i hi => ?_, h.len, fun i hi => ?_⟩
  · obtain ⟨ix, hix⟩ := h.idx i hi
    by_cases hik : i = k
    · subst hik
      exact ⟨v, World.cell?_setCell_same _ _ _ hix⟩
    · exact ⟨ix, (World.cell?_setCell_other _ _ _ _ (by simp <;> omega)).trans hix⟩
  · exact (World.cell?_setCell_other _ _ _ _ (by simp <;> omega)).trans (h.sl i hi)
  · rcases h.byt i hi with h0 | ⟨b, off, ha, hO, hF, hg, hb⟩
    · exact .inl h0
    · refine .inr ⟨b, off, ha, hO, hF, hg, fun j hj => ?_⟩
      obtain ⟨⟨y, hy⟩, hf⟩ := hb j hj
      exact ⟨⟨y, (World.cell?_setCell_other _ _ _ _ (by simp <;> omega)).trans hy⟩, by rw [World.frozen?_setCell]; exact hf⟩

theorem Mut.byte {x : World} {O F g n : Nat} {S : Nat → Sl} (h : Mut x O F g n S) (b0 o0 : Nat) (v : Int) (hb0 : b0 ≠ g) : Mut (x.setCell ⟨b0, o0, none⟩ (.int .u8 v)) O F g n S := by
  refine ⟨h.ge, h.lt, by simpa using h.size, fun j => by rw [World.frozen?_setCell]; exact h.fz j, fun i hi => ?_, fun i hi => ?_, h.len, fun i hi => ?_⟩
  · obtain ⟨ix, hix⟩ := h.idx i hi
    exact ⟨ix, (World.cell?_setCell_other _ _ _ _ (by simp <;> omega)).trans hix⟩
  · exact (World.cell?_setCell_other _ _ _ _ (by simp <;> omega)).trans (h.sl i hi)
  · rcases h.byt i hi with h0 | ⟨b, off, ha, hO, hF, hg, hb⟩
    · exact .inl h0
    · refine .inr ⟨b, off, ha, hO, hF, hg, fun j hj => ?_⟩
      obtain ⟨⟨y, hy⟩, hf⟩ := hb j hj
      refine ⟨?_, by rw [World.frozen?_setCell]; exact hf⟩
      by_cases e : b0 = b ∧ o0 = off + j
      · obtain ⟨rfl, rfl⟩ := e
        exact ⟨v, World.cell?_setCell_same _ _ _ hy⟩
      · exact ⟨y, (World.cell?_setCell_other _ _ _ _ (by simp <;> omega)).trans hy⟩

theorem Mut.drewN {x : World} {O F g n : Nat} {S : Nat → Sl} (h : Mut x O F g n S) (q : Nat) : Mut (x.drewN q) O F g n S := ⟨h.ge, h.lt, h.size, h.fz, h.idx, h.sl, h.len, h.byt⟩
theorem Mut.drew {x : World} {O F g n : Nat} {S : Nat → Sl} (h : Mut x O F g n S) : Mut x.drew O F g n S := ⟨h.ge, h.lt, h.size, h.fz, h.idx, h.sl, h.len, h.byt⟩

theorem mut_of {O F : Nat} {w6 x : World} {ao : Option Addr} {es : List En} (hV : ViewEnts O O w6 ao (es.map viewEn)) (hF : w6.heap.size = F) (hf : Fits es) (hb : Below w6.heap.size w6 x) (hx : F < x.heap.size) (hes : es ≠ []) :
    ∃ g S, ao = some ⟨g, 0, none⟩ ∧ Mut x O F g es.length S := by
  rcases hV with h0 | ⟨g, rfl, hg, hE⟩
  · simp at h0; exact absurd h0 hes
  have key : ∀ i, ∃ s : Sl, i < es.length → (∃ ix, x.cell? ⟨g, i * 5, none⟩ = some (.int .u64 ix)) ∧ x.cell? ⟨g, i * 5 + 2, none⟩ = some (.slice s.ca s.cl s.cc) ∧ s.cl ≤ 1048576 ∧
      (s.cl = 0 ∨ ∃ b off, s.ca = some ⟨b, off, none⟩ ∧ O ≤ b ∧ b < F ∧ b ≠ g ∧ ∀ j, j < s.cl → (∃ y, x.cell? ⟨b, off + j, none⟩ = some (.int .u8 y)) ∧ x.frozen? ⟨b, off + j, none⟩ = false) := by
    intro i
    by_cases hi : i < es.length
    · have he : es[i]? = some es[i] := List.getElem?_eq_getElem hi
      have he' : (es.map viewEn)[i]? = some (viewEn es[i]) := by simp [he]
      obtain ⟨ca, cc, ma, mc, c0, _, c2, _, _, hw⟩ := hE i _ he'
      refine ⟨⟨ca, es[i].cmd.length, cc⟩, fun _ => ⟨⟨_, (hb.cell (p := ⟨g, _, none⟩) hg.lt).trans c0⟩, (hb.cell (p := ⟨g, _, none⟩) hg.lt).trans c2, hf.cmd i _ he, ?_⟩⟩
      rcases hw.cmd with h0 | ⟨b, off, rfl, hn, hc⟩
      · exact .inl (by rw [show es[i].cmd = [] from h0]; rfl)
      · refine .inr ⟨b, off, rfl, hn.1.ge, hF ▸ hn.1.lt, hn.2, fun j hj => ⟨?_, ?_⟩⟩
        · exact ⟨_, (hb.cell (p := ⟨b, _, none⟩) hn.1.lt).trans (hc j _ (List.getElem?_eq_getElem hj))⟩
        · exact (hb.frozen (p := ⟨b, _, none⟩) hn.1.lt).trans (hn.1.fz _)
    · exact ⟨⟨none, 0, 0⟩, fun h => absurd h hi⟩
  refine ⟨g, fun i => Classical.choose (key i), rfl, hg.ge, hF ▸ hg.lt, hx, fun j => (hb.frozen (p := ⟨g, j, none⟩) hg.lt).trans (hg.fz j), fun i hi => ?_, fun i hi => ?_, fun i hi => ?_, fun i hi => ?_⟩
  · exact (Classical.choose_spec (key i) hi).1
  · exact (Classical.choose_spec (key i) hi).2.1
  · exact (Classical.choose_spec (key i) hi).2.2.1
  · exact (Classical.choose_spec (key i) hi).2.2.2
end Go.Proofs.Qxb6614540a.V
