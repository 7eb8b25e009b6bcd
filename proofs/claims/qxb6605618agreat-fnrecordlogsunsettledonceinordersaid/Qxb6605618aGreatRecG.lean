/-
  Opening []int and []bool.
-/
import Derived.Test.Qxb6605618aGreatRecF
import Derived.ProofKit
import Derived.OpenShut
import Derived.ShutString
import Derived.ChangeOld
import Derived.Below
import Derived.ChangeSlices
import Derived.Deep.Grids
namespace Go.Proofs.Qxb6605618aGreat
open Go.ChangeShapes Go.WideShapes Go.ChangeAt Go.RowKit
open Go.ChangeMaps (open_string shut_string)

theorem cells3 : Tryz.prog.cellsOf 3 = 1 := by kernel_rfl
theorem cells4 : Tryz.prog.cellsOf 4 = 1 := by kernel_rfl

theorem open_codes {H : Type} {enc : TypeId × Value → H} {W : World} {base : Nat} {held : Bool} {ao : Option Addr} {len cap : Nat} {d : DataW H} {ps : List MemPlace}
    (h : DataW.Trod enc Tryz.prog W base (fun _ => true) held 31 (.slice ao len cap) d ps) : ∃ C, IntsAt W ao len C := by
  obtain ⟨fuel, hf⟩ := h
  rcases open_ints Tryz.underlying31 Tryz.underlying3 cells3 hf with ⟨hcs, _⟩ | ⟨a, l, c, zs, hcs, _, hl, hm, hz, _, hx, _⟩
  · simp [Value.cells] at hcs
    obtain ⟨rfl, rfl, rfl⟩ := hcs
    exact ⟨fun _ => 0, .inl rfl⟩
  · simp [Value.cells] at hcs
    obtain ⟨rfl, rfl, rfl⟩ := hcs
    simp only [if_true] at hz
    by_cases h0 : len = 0
    · exact ⟨fun _ => 0, .inl h0⟩
    · obtain ⟨b, off, spot⟩ := a
      have c0 := hx 0 (by omega)
      have hspot : spot = none := by simpa [Addr.add] using World.cell?_spot c0
      subst hspot
      refine ⟨fun i => zs.getD i 0, .inr ⟨b, off, rfl, World.block_lt_of_cell? W _ c0, fun i hi => ?_⟩⟩
      have hi' := hx i (by omega)
      rwa [show (⟨b, off, none⟩ : Addr).add i = ⟨b, off + i, none⟩ by unfold Addr.add; split <;> simp_all] at hi'

theorem open_flags {H : Type} {enc : TypeId × Value → H} {W : World} {base : Nat} {held : Bool} {ao : Option Addr} {len cap : Nat} {d : DataW H} {ps : List MemPlace}
    (h : DataW.Trod enc Tryz.prog W base (fun _ => true) held 32 (.slice ao len cap) d ps) : ∃ B, BoolsAt W ao len B := by
  obtain ⟨fuel, hf⟩ := h
  rcases Go.Deep.open_bools Tryz.underlying32 Tryz.underlying4 cells4 hf with ⟨hcs, _⟩ | ⟨a, l, c, B, hcs, _, hl, hm, _, hx⟩
  · simp [Value.cells] at hcs
    obtain ⟨rfl, rfl, rfl⟩ := hcs
    exact ⟨fun _ => false, .inl rfl⟩
  · simp [Value.cells] at hcs
    obtain ⟨rfl, rfl, rfl⟩ := hcs
    by_cases h0 : len = 0
    · exact ⟨fun _ => false, .inl h0⟩
    · obtain ⟨b, off, spot⟩ := a
      have c0 := hx 0 (by omega)
      have hspot : spot = none := by simpa [Addr.add] using World.cell?_spot c0
      subst hspot
      refine ⟨B, .inr ⟨b, off, rfl, World.block_lt_of_cell? W _ c0, fun i hi => ?_⟩⟩
      have hi' := hx i (by omega)
      rwa [show (⟨b, off, none⟩ : Addr).add i = ⟨b, off + i, none⟩ by unfold Addr.add; split <;> simp_all] at hi'

end Go.Proofs.Qxb6605618aGreat
