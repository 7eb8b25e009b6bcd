/-
  describe's two growing rows: parameters and fillings.
-/
import Derived.Test.Qxb6605826aAction
import Derived.Deep.AppendLies
namespace Go.Proofs.Qxb6605826a
open Go.RowKit

theorem info42 : (Try.prog.info? 42).map (fun i => (i.zero, i.size, i.bytes)) = some (some (.agg #[.string ⟨#[]⟩, .string ⟨#[]⟩, .bool false]), 3, 40) := by kernel_rfl
theorem info9 : (Try.prog.info? 9).map (fun i => (i.zero, i.size, i.bytes)) = some (some (.string ⟨#[]⟩), 1, 16) := by kernel_rfl

/-- What is filled in for one input. -/
def piece (s : ByteArray) : ByteArray := ((s ++ ⟨#[61, 123]⟩) ++ s) ++ ⟨#[125]⟩
def flatP (I : Nat → Inp) (k : Nat) : List Value := (List.range k).flatMap fun j => [.string (I j).name, .string (I j).label, .bool (I j).req]
def fills (I : Nat → Inp) (k : Nat) : List Value := (List.range k).map fun j => .string (piece (I j).name)
theorem flatP_succ (I : Nat → Inp) (k : Nat) : flatP I (k + 1) = flatP I k ++ [.string (I k).name, .string (I k).label, .bool (I k).req] := by simp [flatP, List.range_succ]
theorem fills_succ (I : Nat → Inp) (k : Nat) : fills I (k + 1) = fills I k ++ [.string (piece (I k).name)] := by simp [fills, List.range_succ]

/-- Behind an append to a row of type e a block of another type is as it was. -/
theorem grown_far {x y : World} {base n size : Nat} {e : TypeId} {v : Value} {xs : List Value} (own : x.ownsRow base e size v n xs) (hg : x.grownBy y v.ownBlock) {b : Nat} {cs : Array Value} {t : TypeId} {fr : Nat × Nat} (hb : x.heap[b]? = some (.cells cs t fr)) (ht : t ≠ e) :
    y.heap[b]? = x.heap[b]? := by
  refine hg.block b (Array.getElem?_eq_some_iff.1 hb).1 ?_
  rcases own.2 with ⟨rfl, _⟩ | ⟨g, cap, cur, rfl, _, hh, _⟩
  · simp [Value.ownBlock]
  · simp only [Value.ownBlock, ne_eq, Option.some.injEq]
    rintro rfl
    rw [hb] at hh
    simp at hh
    exact ht hh.2.1

theorem own_keep {w w' : World} {base n : Nat} {e : TypeId} {size : Nat} {v : Value} {xs : List Value} (own : w.ownsRow base e size v n xs) (h : ∀ (b : Nat) (cur : Array Value), w.heap[b]? = some (.cells cur e (0, 0)) → w'.heap[b]? = w.heap[b]?) : w'.ownsRow base e size v n xs := by
  refine ⟨own.1, ?_⟩
  rcases own.2 with h0 | ⟨g, cap, cur, hv, hb, hh, r⟩
  · exact .inl h0
  · exact .inr ⟨g, cap, cur, hv, hb, (h g cur hh).trans hh, r⟩

/-- The world in describe's first loop: result block, description block, the two rows. -/
structure Lp (w x : World) (dc rc : Array Value) (pv fv : Value) (k : Nat) (I : Nat → Inp) : Prop where
  bel : Below w.heap.size w x
  sz : w.heap.size + 2 ≤ x.heap.size
  d : x.heap[w.heap.size + 1]? = some (.cells dc 29 (0, 0))
  r : x.heap[w.heap.size]? = some (.cells rc 29 (0, 0))
  p : x.ownsRow (w.heap.size + 2) 42 3 pv k (flatP I k)
  f : x.ownsRow (w.heap.size + 2) 9 1 fv k (fills I k)

theorem two_new (x : World) (o o' : Obj) : ((x.alloc o).alloc o').heap[x.heap.size + 1]? = some o' := by
  have := heap_alloc_new (x.alloc o) o'
  rwa [show (x.alloc o).heap.size = x.heap.size + 1 by simp] at this
theorem two_old (x : World) (o o' : Obj) : ((x.alloc o).alloc o').heap[x.heap.size]? = some o := by
  rw [Below.heap_alloc _ _ _ (by simp)]
  exact heap_alloc_new _ _

/-- The parameters have grown by one. -/
structure Lq (w x : World) (dc rc : Array Value) (pv fv : Value) (k : Nat) (I : Nat → Inp) : Prop where
  bel : Below w.heap.size w x
  sz : w.heap.size + 2 ≤ x.heap.size
  d : x.heap[w.heap.size + 1]? = some (.cells dc 29 (0, 0))
  r : x.heap[w.heap.size]? = some (.cells rc 29 (0, 0))
  p : x.ownsRow (w.heap.size + 2) 42 3 pv (k + 1) (flatP I (k + 1))
  f : x.ownsRow (w.heap.size + 2) 9 1 fv k (fills I k)

theorem Lq.of {w x y : World} {dc rc : Array Value} {pv fv pv' : Value} {k : Nat} {I : Nat → Inp} (h : Lp w x dc rc pv fv k I) (hg : x.grownBy y pv.ownBlock)
    (hp : y.ownsRow (w.heap.size + 2) 42 3 pv' (k + 1) (flatP I k ++ [.string (I k).name, .string (I k).label, .bool (I k).req])) : Lq w y dc rc pv' fv k I :=
  ⟨h.bel.grown hg (by have := h.sz; omega) (fun j hj => by have := (h.p.lt j hj).1; omega), Nat.le_trans h.sz hg.size, (grown_far h.p hg h.d (by decide)).trans h.d, (grown_far h.p hg h.r (by decide)).trans h.r, by rw [flatP_succ]; exact hp,
    own_keep h.f fun b cur hbc => grown_far h.p hg hbc (by decide)⟩

theorem Lq.alloc {w x : World} {dc rc : Array Value} {pv fv : Value} {k : Nat} {I : Nat → Inp} (h : Lq w x dc rc pv fv k I) (o : Obj) : Lq w (x.alloc o) dc rc pv fv k I := by
  have sz := h.sz
  exact ⟨h.bel.alloc (by omega) _, by simp; omega, (Below.heap_alloc _ _ _ (by omega)).trans h.d, (Below.heap_alloc _ _ _ (by omega)).trans h.r, h.p.alloc _, h.f.alloc _⟩

theorem Lp.of {w x y : World} {dc rc : Array Value} {pv fv fv' : Value} {k : Nat} {I : Nat → Inp} (h : Lq w x dc rc pv fv k I) (hg : x.grownBy y fv.ownBlock)
    (hf : y.ownsRow (w.heap.size + 2) 9 1 fv' (k + 1) (fills I k ++ [.string (piece (I k).name)])) : Lp w y dc rc pv fv' (k + 1) I :=
  ⟨h.bel.grown hg (by have := h.sz; omega) (fun j hj => by have := (h.f.lt j hj).1; omega), Nat.le_trans h.sz hg.size, (grown_far h.f hg h.d (by decide)).trans h.d, (grown_far h.f hg h.r (by decide)).trans h.r,
    own_keep h.p fun b cur hbc => grown_far h.f hg hbc (by decide), by rw [fills_succ]; exact hf⟩

/-- A block more. -/
theorem Lp.alloc {w x : World} {dc rc : Array Value} {pv fv : Value} {k : Nat} {I : Nat → Inp} (h : Lp w x dc rc pv fv k I) (o : Obj) : Lp w (x.alloc o) dc rc pv fv k I := by
  have sz := h.sz
  exact ⟨h.bel.alloc (by omega) _, by simp; omega, (Below.heap_alloc _ _ _ (by omega)).trans h.d, (Below.heap_alloc _ _ _ (by omega)).trans h.r, h.p.alloc _, h.f.alloc _⟩
end Go.Proofs.Qxb6605826a
