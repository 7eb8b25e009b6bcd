/-
  describe's second loop: what stands in the world.
-/
import Derived.Test.Qxb6605826aParams
import Derived.Laws.AppendOwnNone
import Derived.Lib.Join
namespace Go.Proofs.Qxb6605826a
open Go.RowKit

def choiceB (s : ByteArray) : ByteArray := (⟨#[99, 104, 111, 105, 99, 101, 61]⟩ : ByteArray) ++ s
def fillsB (I : Nat → Inp) (ni : Nat) : List ByteArray := (List.range ni).map fun j => piece (I j).name
def joinB (l : List ByteArray) : ByteArray := ⟨(Lib.join (l.map (·.data.toList)) [38]).toArray⟩
def hrefC (hr : ByteArray) (C : Nat → Ch) (I : Nat → Inp) (ni k : Nat) : ByteArray := hr ++ joinB (choiceB (C k).id :: fillsB I ni)
def flatL (hr : ByteArray) (C : Nat → Ch) (I : Nat → Inp) (ni : Nat) (pv : Value) (k : Nat) : List Value := (List.range k).flatMap fun j => [.string (C j).label, .string (hrefC hr C I ni j), pv]
theorem flatL_succ (hr : ByteArray) (C : Nat → Ch) (I : Nat → Inp) (ni : Nat) (pv : Value) (k : Nat) : flatL hr C I ni pv (k + 1) = flatL hr C I ni pv k ++ [.string (C k).label, .string (hrefC hr C I ni k), pv] := by simp [flatL, List.range_succ]
theorem info40 : (Try.prog.info? 40).map (fun i => (i.zero, i.size, i.bytes)) = some (some (.agg #[.string ⟨#[]⟩, .string ⟨#[]⟩, .slice none 0 0]), 3, 56) := by kernel_rfl

/-- The world in describe's second loop. -/
structure Lk (w x : World) (dc rc : Array Value) (L : Nat) (pv fv lv : Value) (hr : ByteArray) (C : Nat → Ch) (I : Nat → Inp) (ni k : Nat) : Prop where
  bel : Below w.heap.size w x
  sz : w.heap.size + 2 ≤ x.heap.size
  d : x.heap[w.heap.size + 1]? = some (.cells dc 29 (0, 0))
  r : x.heap[w.heap.size]? = some (.cells rc 29 (0, 0))
  lb : w.heap.size + 2 ≤ L
  l : x.heap[L]? = some (.cells #[lv] 37 (0, 0))
  p : x.ownsRow (w.heap.size + 2) 42 3 pv ni (flatP I ni)
  f : x.ownsRow (w.heap.size + 2) 9 1 fv ni (fills I ni)
  k : x.ownsRow (w.heap.size + 2) 40 3 lv k (flatL hr C I ni pv k)

theorem own_below {x y : World} {base n size : Nat} {e : TypeId} {v : Value} {xs : List Value} (h : x.ownsRow base e size v n xs) (hb : Below x.heap.size x y) : y.ownsRow base e size v n xs :=
  own_keep h fun b _ hbc => hb.block b (Array.getElem?_eq_some_iff.1 hbc).1

theorem Lk.below {w x y : World} {dc rc : Array Value} {L : Nat} {pv fv lv : Value} {hr : ByteArray} {C : Nat → Ch} {I : Nat → Inp} {ni k : Nat} (h : Lk w x dc rc L pv fv lv hr C I ni k) (hb : Below x.heap.size x y) : Lk w y dc rc L pv fv lv hr C I ni k := by
  have sz := h.sz
  have ll := (Array.getElem?_eq_some_iff.1 h.l).1
  exact ⟨h.bel.trans (hb.mono (by omega)), Nat.le_trans sz hb.size, (hb.block _ (by omega)).trans h.d, (hb.block _ (by omega)).trans h.r, h.lb, (hb.block _ ll).trans h.l, own_below h.p hb, own_below h.f hb, own_below h.k hb⟩

theorem set_blk {w : World} {b j : Nat} {v : Value} {cs : Array Value} {t : TypeId} (h : w.heap[b]? = some (.cells cs t (0, 0))) : (w.setCell ⟨b, j, none⟩ v).heap[b]? = some (.cells (cs.set! j v) t (0, 0)) := by
  simp [World.setCell, Array.getElem?_modify, h, Array.set!]

/-- The links have grown by one, and the new slice is laid into their block. -/
theorem Lk.grow {w x y : World} {dc rc : Array Value} {L : Nat} {pv fv lv lv' : Value} {hr : ByteArray} {C : Nat → Ch} {I : Nat → Inp} {ni k : Nat} (h : Lk w x dc rc L pv fv lv hr C I ni k) (hg : x.grownBy y lv.ownBlock)
    (hk : y.ownsRow (w.heap.size + 2) 40 3 lv' (k + 1) (flatL hr C I ni pv k ++ [.string (C k).label, .string (hrefC hr C I ni k), pv])) : Lk w (y.setCell ⟨L, 0, none⟩ lv') dc rc L pv fv lv' hr C I ni (k + 1) := by
  have sz := h.sz
  have lb := h.lb
  have hl := (grown_far h.k hg h.l (by decide)).trans h.l
  have keep : ∀ {b : Nat} {cs : Array Value} {t : TypeId}, x.heap[b]? = some (.cells cs t (0, 0)) → t ≠ 40 → b ≠ L → (y.setCell ⟨L, 0, none⟩ lv').heap[b]? = x.heap[b]? := fun hb ht hn => (Below.heap_setCell _ _ _ _ hn).trans (grown_far h.k hg hb ht)
  have neL : ∀ {b : Nat} {cs : Array Value} {t : TypeId}, x.heap[b]? = some (.cells cs t (0, 0)) → t ≠ 37 → b ≠ L := fun hb ht hn => by
    subst hn; rw [h.l] at hb; simp at hb; exact ht hb.2.symm
  refine ⟨(h.bel.grown hg (by omega) (fun j hj => by have := (h.k.lt j hj).1; omega)).setCell (p := ⟨L, 0, none⟩) (by show w.heap.size ≤ L; omega) _, by rw [World.size_setCell]; exact Nat.le_trans sz hg.size, (keep h.d (by decide) (by omega)).trans h.d, (keep h.r (by decide) (by omega)).trans h.r, lb, ?_, ?_, ?_, ?_⟩
  · have := set_blk (j := 0) (v := lv') hl
    simpa [Array.set!] using this
  · exact own_keep h.p fun b cur hb => keep hb (by decide) (neL hb (by decide))
  · exact own_keep h.f fun b cur hb => keep hb (by decide) (neL hb (by decide))
  · rw [flatL_succ]
    refine own_keep hk fun b cur hb => Below.heap_setCell _ _ _ _ ?_
    rintro rfl
    rw [hl] at hb
    simp at hb

/-- append of a row (nil where it is empty) to a row of the call's own that is not empty. -/
theorem wpList_append_rows {P : Program} {w : World} {ops : Array Oper} {rest : List Oper} {o : Oper} {a : Act} {Q : Exit → Act → World → Prop} (hgd : o.guard = none) (s x : Operand) (t : TypeId)
    (ho : o.op = .call { callee := .builtin .append, args := #[s, x], argTypes := #[t, t] })
    (base : Nat) (e : TypeId) (i : TypeInfo) (z : Value) (size bytes : Nat) (ht : P.underlying t = some (.slice e)) (hi : P.info? e = some i) (hz : i.zero = some z)
    (hsize : i.size = size) (hby : i.bytes = bytes) (hzs : z.cells.size = size) (hsz : 0 < size)
    (v : Value) (n : Nat) (xs : List Value) (hs : a.eval s = v) (hown : w.ownsRow base e size v n xs) (hn : 0 < n)
    (fv : Value) (m : Nat) (news : List Value) (base' : Nat) (hx : a.eval x = fv) (hfv : w.ownsRow base' e size fv m news) (hnil : m = 0 → fv = .slice none 0 0) (h1 : ∀ u ∈ news, u.oneCell' = true)
    (h63 : n + m ≤ maxLen) (hbytes : (n + m) * bytes ≤ 140737488355328) (hbase : base ≤ w.heap.size)
    (h : ∀ g cap w', w'.ownsRow base e size (.slice (some ⟨g, 0, none⟩) (n + m) cap) (n + m) (xs ++ news) → w.grownBy w' v.ownBlock → wpList P ops Q rest (a.put o.dst (.slice (some ⟨g, 0, none⟩) (n + m) cap)) w') : wpList P ops Q (o :: rest) a w := by
  rcases Nat.eq_zero_or_pos m with rfl | hm
  · have hfe := hnil rfl
    have hnews : news = [] := List.eq_nil_of_length_eq_zero (by have := hfv.1; omega)
    subst hnews
    refine wpList_append_own_none hgd s x t ho base e i size ht hi v n xs hs hown (hx.trans hfe) ?_
    obtain ⟨g, cap, rfl, _, _⟩ := hown.form hn
    exact h g cap w (by simpa using hown) (World.grownBy.refl _ _)
  · obtain ⟨g, cap, rfl, _, _⟩ := hfv.form hm
    refine wpList_append_lies _ hgd s x t ho base e i z size bytes ht hi hz hsize hby hzs hsz v n xs hs hown ⟨g, 0, none⟩ m cap news hx hfv.1 (fun j u hu => ?_) h1 hm h63 hbytes hbase _ rfl fun g cap w' h2 h3 _ _ => h g cap w' h2 h3
    have hj : j < m * size := by have := (List.getElem?_eq_some_iff.1 hu).1; rw [hfv.1] at this; exact this
    have := hfv.cellAt j hj
    rw [hu] at this
    by_cases h0 : j = 0
    · subst h0; simpa [Addr.add] using this
    · simpa [Addr.add, h0] using this

theorem fills_str (I : Nat → Inp) (ni : Nat) : fills I ni = (fillsB I ni).map Value.string := by simp [fills, fillsB, Function.comp_def]

theorem lens_le {B : Nat} : ∀ (l : List (List UInt8)), (∀ x ∈ l, x.length ≤ B) → Lib.lens l ≤ B * l.length
  | [], _ => by simp [Lib.lens]
  | x :: r, h => by
    have ih := lens_le r fun y hy => h y (List.mem_cons_of_mem _ hy)
    have hx := h x (List.mem_cons_self ..)
    simp only [Lib.lens, List.map_cons, List.sum_cons, List.length_cons] at ih ⊢
    rw [Nat.mul_add, Nat.mul_one]
    omega

theorem join_small (l : List ByteArray) (hl : l.length ≤ 4097) (hs : ∀ x ∈ l, x.size ≤ 2097160) : (Lib.join (l.map (·.data.toList)) [38]).length ≤ 8592072617 := by
  cases l with
  | nil => simp [Lib.join_nil]
  | cons x r =>
    rw [List.map_cons, Lib.join_length]
    have := lens_le (B := 2097160) (x.data.toList :: r.map (·.data.toList)) (by
      intro y hy
      simp only [List.mem_cons, List.mem_map] at hy
      rcases hy with rfl | ⟨z, hz, rfl⟩
      · exact hs x (List.mem_cons_self ..)
      · exact hs z (List.mem_cons_of_mem _ hz))
    simp only [List.length_cons, List.length_map, List.length_nil] at this hl ⊢
    omega

end Go.Proofs.Qxb6605826a
