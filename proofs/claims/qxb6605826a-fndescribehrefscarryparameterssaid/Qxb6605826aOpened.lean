/-
  The slices that came in, opened.
-/
import Derived.Test.Qxb6605826aReadable
import Derived.ProofKit
import Derived.OpenShut
import Derived.ShutString
import Derived.ChangeOld
import Derived.Below
import Derived.Deep.Strs
import Derived.Deep.SlicePairs
namespace Go.Proofs.Qxb6605826a
open Go.ChangeShapes Go.WideShapes Go.ChangeAt Go.RowKit Go.Deep

theorem own : ownKnob Try.prog.godebug = none := by kernel_rfl
theorem laidOut : laidOutB Try.prog = true := by kernel_rfl
theorem cells49 : Try.prog.cellsOf 49 = 2 := by kernel_rfl
theorem cells46 : Try.prog.cellsOf 46 = 2 := by kernel_rfl
theorem cells44 : Try.prog.cellsOf 44 = 3 := by kernel_rfl
theorem cells9 : Try.prog.cellsOf 9 = 1 := by kernel_rfl
theorem cells4 : Try.prog.cellsOf 4 = 1 := by kernel_rfl

theorem three_of {α : Type} {l : List α} (h : l.length = 3) : ∃ a b c, l = [a, b, c] := by
  match l, h with
  | [a, b, c], _ => exact ⟨a, b, c, rfl⟩
theorem addr_add (b o i : Nat) : (⟨b, o, none⟩ : Addr).add i = ⟨b, o + i, none⟩ := by unfold Addr.add; split <;> simp_all

theorem open_pairs {H : Type} {enc : TypeId × Value → H} {W : World} {base : Nat} {spare : Nat → Bool} {held : Bool} {ao : Option Addr} {len cap : Nat} {d : DataW H} {ps : List MemPlace} {t e : TypeId} {f0 f1 : Field} (ht : Try.prog.underlying t = some (.slice e)) (he : Try.prog.underlying e = some (.struct #[f0, f1]))
    (ce : Try.prog.cellsOf e = 2) (o0 : f0.offset = 0) (o1 : f1.offset = 1) (t0 : f0.type = 9) (t1 : f1.type = 9)
    (h : DataW.Trod enc Try.prog W base spare held t (.slice ao len cap) d ps) : ∃ C, PairsAt W ao len C ∧ (ao = none → len = 0) ∧ ∀ i, i < len → (C i).id.size ≤ maxLen ∧ (C i).label.size ≤ maxLen := by
  obtain ⟨fuel, hf⟩ := h
  rcases open_slice_pairs ht he ce o0 o1 (by rw [t0]; exact cells9) (by rw [t1]; exact cells9) hf with ⟨hcs, _⟩ | ⟨a, l, c, m, nn, V0, V1, D0, D1, P0, P1, hcs, _, hl, hm, hmm, _, hx⟩
  · simp [Value.cells] at hcs
    obtain ⟨rfl, rfl, rfl⟩ := hcs
    exact ⟨fun _ => ⟨ByteArray.empty, ByteArray.empty⟩, .inl rfl, fun _ => rfl, fun i hi => by omega⟩
  · simp [Value.cells] at hcs
    obtain ⟨rfl, rfl, rfl⟩ := hcs
    have hlm : len ≤ m := by rw [hmm]; split <;> omega
    have key : ∀ i, i < len → ∃ r : Ch, W.cell? (a.add (i * 2)) = some (.string r.id) ∧ W.cell? (a.add (i * 2 + 1)) = some (.string r.label) ∧ r.id.size ≤ maxLen ∧ r.label.size ≤ maxLen := by
      intro i hi
      obtain ⟨h0, h1, h2, h3⟩ := hx i (by omega)
      rw [t0] at h2
      rw [t1] at h3
      obtain ⟨s0, e0, _, z0⟩ := DataW.trod_string Try.underlying9 h2
      obtain ⟨s1, e1, _, z1⟩ := DataW.trod_string Try.underlying9 h3
      simp at e0 e1
      rw [e0] at h0
      rw [e1] at h1
      exact ⟨⟨s0, s1⟩, h0, h1, z0, z1⟩
    by_cases h0 : len = 0
    · exact ⟨fun _ => ⟨ByteArray.empty, ByteArray.empty⟩, .inl h0, fun _ => h0, fun i hi => by omega⟩
    · obtain ⟨b, off, spot⟩ := a
      have hspot : spot = none := by
        obtain ⟨r, c0, _⟩ := key 0 (by omega)
        simpa [Addr.add] using World.cell?_spot c0
      subst hspot
      have hb : b < W.heap.size := by
        obtain ⟨r, c0, _⟩ := key 0 (by omega)
        simpa [Addr.add] using World.block_lt_of_cell? W _ c0
      have key' : ∀ i, ∃ r : Ch, i < len → W.cell? ⟨b, off + i * 2, none⟩ = some (.string r.id) ∧ W.cell? ⟨b, off + i * 2 + 1, none⟩ = some (.string r.label) ∧ r.id.size ≤ maxLen ∧ r.label.size ≤ maxLen := by
        intro i
        by_cases hi : i < len
        · obtain ⟨r, hr⟩ := key i hi
          simp only [addr_add, ← Nat.add_assoc] at hr
          exact ⟨r, fun _ => hr⟩
        · exact ⟨⟨ByteArray.empty, ByteArray.empty⟩, fun h => absurd h hi⟩
      refine ⟨fun i => Classical.choose (key' i), .inr ⟨b, off, rfl, hb, fun i hi => ?_⟩, (fun h => by cases h), fun i hi => (Classical.choose_spec (key' i) hi).2.2⟩
      have := Classical.choose_spec (key' i) hi
      exact ⟨this.1, this.2.1⟩

theorem open_input {H : Type} {enc : TypeId × Value → H} {w : World} {base : Nat} {spare : Nat → Bool} {held : Bool} {fuel : Nat} {cs : List Value} {x : DataW H × List MemPlace}
    (h : DataW.trod enc Try.prog w base spare held fuel 44 cs = some x) : ∃ r : Inp, cs = [.string r.name, .string r.label, .bool r.req] := by
  obtain ⟨y0, y1, y2, n, _, hl, h0, h1, h2⟩ := trod_struct3 Try.underlying44 h
  rw [cells44] at hl
  obtain ⟨c0, c1, c2, rfl⟩ := three_of hl
  simp only [cells4, cells9] at h0 h1 h2
  obtain ⟨a, e0, _, _⟩ := DataW.trod_string Try.underlying9 h0
  obtain ⟨s, e1, _, _⟩ := DataW.trod_string Try.underlying9 h1
  obtain ⟨b, e2, _⟩ := DataW.trod_bool Try.underlying4 h2
  simp at e0 e1 e2
  subst e0 e1 e2
  exact ⟨⟨a, s, b⟩, rfl⟩

theorem open_inputs {H : Type} {enc : TypeId × Value → H} {W : World} {base : Nat} {spare : Nat → Bool} {held : Bool} {ao : Option Addr} {len cap : Nat} {d : DataW H} {ps : List MemPlace}
    (h : DataW.Trod enc Try.prog W base spare held 24 (.slice ao len cap) d ps) : ∃ I, InpsAt W ao len I ∧ (ao = none → len = 0) := by
  obtain ⟨fuel, hf⟩ := h
  rcases open_slice Try.underlying24 hf with ⟨hcs, _⟩ | ⟨a, l, c, m, nn, D, Pl, hcs, _, hl, hm, hmm, _, hx⟩
  · simp [Value.cells] at hcs
    obtain ⟨rfl, rfl, rfl⟩ := hcs
    exact ⟨fun _ => ⟨ByteArray.empty, ByteArray.empty, false⟩, .inl rfl, fun _ => rfl⟩
  · simp [Value.cells] at hcs
    obtain ⟨rfl, rfl, rfl⟩ := hcs
    have hlm : len ≤ m := by rw [hmm]; split <;> omega
    have key : ∀ i, i < len → ∃ r : Inp, W.cell? (a.add (i * 3)) = some (.string r.name) ∧ W.cell? ((a.add (i * 3)).add 1) = some (.string r.label) ∧ W.cell? ((a.add (i * 3)).add 2) = some (.bool r.req) := by
      intro i hi
      obtain ⟨cs', h1, h2⟩ := hx i (by omega)
      obtain ⟨r, rfl⟩ := open_input h2
      rw [cells44] at h1
      obtain ⟨_, _, hc⟩ := World.cells?_some h1
      exact ⟨r, by simpa [Addr.add] using hc 0 (by omega), by simpa using hc 1 (by omega), by simpa using hc 2 (by omega)⟩
    by_cases h0 : len = 0
    · exact ⟨fun _ => ⟨ByteArray.empty, ByteArray.empty, false⟩, .inl h0, fun _ => h0⟩
    · obtain ⟨b, off, spot⟩ := a
      have hspot : spot = none := by
        obtain ⟨r, c0, _⟩ := key 0 (by omega)
        simpa [Addr.add] using World.cell?_spot c0
      subst hspot
      have hb : b < W.heap.size := by
        obtain ⟨r, c0, _⟩ := key 0 (by omega)
        simpa [Addr.add] using World.block_lt_of_cell? W _ c0
      have key' : ∀ i, ∃ r : Inp, i < len → W.cell? ⟨b, off + i * 3, none⟩ = some (.string r.name) ∧ W.cell? ⟨b, off + i * 3 + 1, none⟩ = some (.string r.label) ∧ W.cell? ⟨b, off + i * 3 + 2, none⟩ = some (.bool r.req) := by
        intro i
        by_cases hi : i < len
        · obtain ⟨r, hr⟩ := key i hi
          simp only [addr_add] at hr
          exact ⟨r, fun _ => hr⟩
        · exact ⟨⟨ByteArray.empty, ByteArray.empty, false⟩, fun h => absurd h hi⟩
      exact ⟨fun i => Classical.choose (key' i), .inr ⟨b, off, rfl, hb, fun i hi => Classical.choose_spec (key' i) hi⟩, fun h => by cases h⟩
end Go.Proofs.Qxb6605826a
