/-
  describe: what its three cases share.
-/
import Derived.Test.Qxb6605826aRegionT
import Derived.Test.Qxb6605826aHref
import Derived.Test.Qxb6605826aJoinRow
import Derived.Test.Qxb6605826aIcons
import Derived.BigRegion
import Derived.BigQuiet
namespace Go.Proofs.Qxb6605826a
open Go.RowKit

theorem slice_form {w : World} {base : Nat} {e : TypeId} {size : Nat} {v : Value} {n : Nat} {xs : List Value} (h : w.ownsRow base e size v n xs) : ∃ po pc, v = .slice po n pc := by
  rcases h.2 with ⟨h1, h2⟩ | ⟨g, cap, cur, hv, _⟩
  · subst h2; exact ⟨none, 0, h1⟩
  · exact ⟨_, _, hv⟩

theorem size29 : (Try.prog.info? 29).map (·.size) = some 5 := by kernel_rfl

/-- The links are begun: an empty block of them, laid into the description. -/
theorem Lp.links {w x : World} {dc rc : Array Value} {pv fv : Value} {ni : Nat} {I : Nat → Inp} (h : Lp w x dc rc pv fv ni I) (hr : ByteArray) (C : Nat → Ch) :
    Lk w ((x.alloc (.cells #[.slice none 0 0] 37)).setCell ⟨w.heap.size + 1, 4, none⟩ (.pointer (some ⟨x.heap.size, 0, none⟩))) (dc.set! 4 (.pointer (some ⟨x.heap.size, 0, none⟩))) rc x.heap.size pv fv (.slice none 0 0) hr C I ni 0 := by
  have sz := h.sz
  have ha := h.alloc (.cells #[.slice none 0 0] 37)
  have ne : ∀ {b : Nat} {cs : Array Value} {t : TypeId}, (x.alloc (.cells #[.slice none 0 0] 37)).heap[b]? = some (.cells cs t (0, 0)) → t ≠ 29 → ((x.alloc (.cells #[.slice none 0 0] 37)).setCell ⟨w.heap.size + 1, 4, none⟩ (.pointer (some ⟨x.heap.size, 0, none⟩))).heap[b]? = (x.alloc (.cells #[.slice none 0 0] 37)).heap[b]? := fun hb ht => Below.heap_setCell _ _ _ _ (fun hn => by
    replace hn : _ = w.heap.size + 1 := hn
    subst hn; rw [ha.d] at hb; simp at hb; exact ht hb.2.symm)
  refine ⟨ha.bel.setCell (p := ⟨w.heap.size + 1, 4, none⟩) (by show w.heap.size ≤ w.heap.size + 1; omega) _, by rw [World.size_setCell]; exact ha.sz, set_blk ha.d, (Below.heap_setCell _ _ _ _ (by simp)).trans ha.r, sz, (ne (heap_alloc_new _ _) (by decide)).trans (heap_alloc_new _ _), own_keep ha.p fun b cur hb => ne hb (by decide), own_keep ha.f fun b cur hb => ne hb (by decide), World.ownsRow_nil _ _ _ _⟩
end Go.Proofs.Qxb6605826a
