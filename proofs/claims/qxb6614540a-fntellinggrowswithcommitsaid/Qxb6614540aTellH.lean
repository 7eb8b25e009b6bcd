/-
  A slice of removal rows that came in, opened.
-/
import Derived.Test.Qxb6614540aTellA
import Derived.ProofKit
import Derived.OpenShut
import Derived.ShutString
import Derived.ChangeOld
import Derived.Below
import Derived.Deep.Strs
namespace Go.Proofs.Qxb6614540a
open Go.ChangeShapes Go.WideShapes Go.ChangeAt Go.RowKit Go.Deep

theorem own : ownKnob Try.prog.godebug = none := by kernel_rfl
theorem laidOut : laidOutB Try.prog = true := by kernel_rfl
theorem cells66 : Try.prog.cellsOf 66 = 3 := by kernel_rfl
theorem cells22 : Try.prog.cellsOf 22 = 1 := by kernel_rfl
theorem cells9 : Try.prog.cellsOf 9 = 1 := by kernel_rfl

theorem three_of {α : Type} {l : List α} (h : l.length = 3) : ∃ a b c, l = [a, b, c] := by
  match l, h with
  | [a, b, c], _ => exact ⟨a, b, c, rfl⟩

theorem open_row {H : Type} {enc : TypeId × Value → H} {w : World} {base : Nat} {spare : Nat → Bool} {held : Bool} {fuel : Nat} {cs : List Value} {x : DataW H × List MemPlace}
    (h : DataW.trod enc Try.prog w base spare held fuel 66 cs = some x) : ∃ r : Rm, cs = [.int .u64 r.id, .string r.addr, .int .u64 r.idx] := by
  obtain ⟨y0, y1, y2, n, _, hl, h0, h1, h2⟩ := trod_struct3 Try.underlying66 h
  rw [cells66] at hl
  obtain ⟨c0, c1, c2, rfl⟩ := three_of hl
  simp only [cells22, cells9] at h0 h1 h2
  obtain ⟨a, e0, _, _⟩ := DataW.trod_int Try.underlying22 h0
  obtain ⟨s, e1, _, _⟩ := DataW.trod_string Try.underlying9 h1
  obtain ⟨b, e2, _, _⟩ := DataW.trod_int Try.underlying22 h2
  simp at e0 e1 e2
  subst e0 e1 e2
  exact ⟨⟨a, s, b⟩, rfl⟩

theorem open_rows {H : Type} {enc : TypeId × Value → H} {W : World} {base : Nat} {spare : Nat → Bool} {held : Bool} {ao : Option Addr} {len cap : Nat} {d : DataW H} {ps : List MemPlace}
    (h : DataW.Trod enc Try.prog W base spare held 58 (.slice ao len cap) d ps) : ∃ R, RowsAt W ao len R := by
  obtain ⟨fuel, hf⟩ := h
  rcases open_slice Try.underlying58 hf with ⟨hcs, _⟩ | ⟨a, l, c, m, nn, D, Pl, hcs, _, hl, hm, hmm, _, hx⟩
  · simp [Value.cells] at hcs
    obtain ⟨rfl, rfl, rfl⟩ := hcs
    exact ⟨fun _ => ⟨0, ByteArray.empty, 0⟩, by omega, .inl rfl⟩
  · simp [Value.cells] at hcs
    obtain ⟨rfl, rfl, rfl⟩ := hcs
    have hlm : len ≤ m := by rw [hmm]; split <;> omega
    have key : ∀ i, i < len → ∃ r : Rm, W.cell? (a.add (i * 3)) = some (.int .u64 r.id) ∧ W.cell? ((a.add (i * 3)).add 1) = some (.string r.addr) ∧ W.cell? ((a.add (i * 3)).add 2) = some (.int .u64 r.idx) := by
      intro i hi
      obtain ⟨cs', h1, h2⟩ := hx i (by omega)
      obtain ⟨r, rfl⟩ := open_row h2
      rw [cells66] at h1
      obtain ⟨_, _, hc⟩ := World.cells?_some h1
      exact ⟨r, by simpa [Addr.add] using hc 0 (by omega), by simpa using hc 1 (by omega), by simpa using hc 2 (by omega)⟩
    by_cases h0 : len = 0
    · exact ⟨fun _ => ⟨0, ByteArray.empty, 0⟩, by unfold maxLen at hm; omega, .inl h0⟩
    · obtain ⟨b, off, spot⟩ := a
      have hspot : spot = none := by
        obtain ⟨r, c0, _⟩ := key 0 (by omega)
        simpa [Addr.add] using World.cell?_spot c0
      subst hspot
      have hb : b < W.heap.size := by
        obtain ⟨r, c0, _⟩ := key 0 (by omega)
        simpa [Addr.add] using World.block_lt_of_cell? W _ c0
      have hadd : ∀ o i, (⟨b, o, none⟩ : Addr).add i = ⟨b, o + i, none⟩ := fun o i => by unfold Addr.add; split <;> simp_all
      have key' : ∀ i, ∃ r : Rm, i < len → W.cell? ⟨b, off + i * 3, none⟩ = some (.int .u64 r.id) ∧ W.cell? ⟨b, off + i * 3 + 1, none⟩ = some (.string r.addr) ∧ W.cell? ⟨b, off + i * 3 + 2, none⟩ = some (.int .u64 r.idx) := by
        intro i
        by_cases hi : i < len
        · obtain ⟨r, hr⟩ := key i hi
          simp only [hadd] at hr
          exact ⟨r, fun _ => hr⟩
        · exact ⟨⟨0, ByteArray.empty, 0⟩, fun h => absurd h hi⟩
      refine ⟨fun i => Classical.choose (key' i), by unfold maxLen at hm; omega, .inr ⟨b, off, rfl, hb, fun i hi => Classical.choose_spec (key' i) hi⟩⟩
end Go.Proofs.Qxb6614540a
