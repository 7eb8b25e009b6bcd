/-
  The head of an href; sizes.
-/
import Derived.Test.Qxb6605826aTold
namespace Go.Proofs.Qxb6605826a
open Go.RowKit

def hrB (id : ByteArray) : ByteArray := ((⟨#[47, 115, 111, 108, 97, 110, 97, 47, 97, 99, 116, 105, 111, 110, 115, 47]⟩ : ByteArray) ++ id) ++ ⟨#[63]⟩
theorem hr_small {id : ByteArray} (h : id.size ≤ 1048576) : (hrB id).size ≤ 2097152 := by
  simp only [hrB, ByteArray.size_append]
  show 16 + id.size + 1 ≤ _
  omega
theorem fill_sizes (I : Nat → Inp) (ni : Nat) (hn : ∀ j, j < ni → (I j).name.size ≤ 1048576) : ∀ x ∈ fillsB I ni, x.size ≤ 2097160 :=
  fun x hx => sizes_row ⟨#[]⟩ I ni (by decide) hn x (List.mem_cons_of_mem _ hx)
end Go.Proofs.Qxb6605826a
