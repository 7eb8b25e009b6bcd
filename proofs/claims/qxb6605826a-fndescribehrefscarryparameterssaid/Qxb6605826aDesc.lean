/-
  describe.
-/
import Derived.Test.Qxb6605826aDescC
import Derived.Test.Qxb6605826aDescN
import Derived.Test.Qxb6605826aDescI
namespace Go.Proofs.Qxb6605826a
open Go.RowKit

theorem f12_any (h A : Nat) (mv : Value) (id title desc label : ByteArray) (nc ni : Nat) (C : Nat → Ch) (I : Nat → Inp) (B : Nat) (w : World) (hA : IsAct w A id title desc label nc C ni I) (hm : IsIcons B w mv) (hid' : id.size ≤ 1048576) (hnc : nc ≤ 4096) (hni : ni ≤ 4096) (hcm : ∀ j, j < nc → (C j).id.size ≤ 1048576) (hnm : ∀ j, j < ni → (I j).name.size ≤ 1048576) (hh : w.cell? ⟨h, 1, none⟩ = some mv) :
    Calls Try.prog 12 #[.pointer (some ⟨h, 0, none⟩), .pointer (some ⟨A, 0, none⟩)] w fun e w' => ∃ ic lv, e = .returned (.agg #[.string ic, .string title, .string desc, .string label, lv]) ∧ Below w.heap.size w w' ∧ LinksV (w.heap.size + 2) w' lv (hrB id) nc ni C I := by
  by_cases h0 : nc = 0
  · by_cases hi0 : ni = 0
    · exact f12_none h A mv id title desc label nc ni C I B w hA hm hid' hni hcm hnm hh h0 hi0
    · exact f12_inputs h A mv id title desc label nc ni C I B w hA hm hid' hni hcm hnm hh h0 hi0
  · exact f12_choice h A mv id title desc label nc ni C I B w hA hm hid' hnc hni hcm hnm hh h0
end Go.Proofs.Qxb6605826a
