/-
  strings.Join on a row of strings.
-/
import Derived.Test.Qxb6605826aLinks
import Derived.Test.Qxb6605826aJoin
namespace Go.Proofs.Qxb6605826a
open Go.RowKit

theorem join_row {W : World} {base g n cap : Nat} {l : List ByteArray} (h : W.ownsRow base 9 1 (.slice (some ⟨g, 0, none⟩) n cap) n (l.map Value.string)) (hl : l.length ≤ 4097) (hs : ∀ x ∈ l, x.size ≤ 2097160) :
    Calls Try.prog 14 #[.slice (some ⟨g, 0, none⟩) n cap, .string ⟨#[38]⟩] W fun e w' => e = .returned (.string (joinB l)) ∧ Below W.heap.size W w' := by
  have hn : l.length = n := by have := h.1; simpa using this
  have hc : n ≤ cap := by
    rcases h.2 with ⟨h0, _⟩ | ⟨g', cap', cur, hv, _, _, hc, _⟩
    · cases h0
    · cases hv; exact hc
  have lt := (h.lt g rfl).2
  have hj := join_small l hl hs
  have := Try.strings_Join g 0 cap l ⟨#[38]⟩ W (fun j x hx => by
    have hj : j < n * 1 := by have := (List.getElem?_eq_some_iff.1 hx).1; omega
    have := h.cellAt j hj
    rw [List.getElem?_map, hx] at this
    simpa using this) lt (by omega) (by omega) (Nat.le_trans hj (by omega))
  rw [hn] at this
  exact this
end Go.Proofs.Qxb6605826a
