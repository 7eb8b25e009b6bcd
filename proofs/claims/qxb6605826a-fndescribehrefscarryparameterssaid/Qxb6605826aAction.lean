/-
  zzBuildAction.
-/
import Derived.Test.Qxb6605826aReadable
import Derived.BigRegion
import Derived.RegionTactic
import Derived.Laws.Cover3
namespace Go.Proofs.Qxb6605826a
open Go.RowKit

theorem info67 : (Try.prog.info? 67).map (fun i => (i.zero, i.size, i.bytes)) = some (some (.agg #[.string ⟨#[]⟩, .string ⟨#[]⟩]), 2, 32) := by kernel_rfl
theorem info68 : (Try.prog.info? 68).map (fun i => (i.zero, i.size, i.bytes)) = some (some (.agg #[.string ⟨#[]⟩, .string ⟨#[]⟩, .bool false]), 3, 40) := by kernel_rfl

/-- Row g of n elements of m cells each while it is filled. -/
structure Row (w1 w : World) (g n m : Nat) : Prop where
  bel : Below g w1 w
  lt : g < w.heap.size
  there : ∀ j, j < n * m → ∃ v, w.cell? ⟨g, j, none⟩ = some v
  fz : ∀ j, w.frozen? ⟨g, j, none⟩ = false

theorem Row.made {w1 w : World} {g n m : Nat} {e : TypeId} {xs : List Value} (hown : w.ownsRow g e m (.slice (some ⟨g, 0, none⟩) n n) n xs) (hb : Below g w1 w) : Row w1 w g n m := by
  refine ⟨hb, (hown.lt g rfl).2, fun j hj => ?_, fun j => hown.frozenAt j⟩
  rw [hown.cellAt j hj]
  exact ⟨xs[j]'(by rw [hown.1]; exact hj), List.getElem?_eq_getElem _⟩

theorem Row.set {w1 w : World} {g n m j : Nat} (h : Row w1 w g n m) (v : Value) : Row w1 (w.setCell ⟨g, j, none⟩ v) g n m := by
  refine ⟨h.bel.setCell (p := ⟨g, j, none⟩) (Nat.le_refl _) _, by simpa using h.lt, fun i hi => ?_, fun i => by rw [World.frozen?_setCell]; exact h.fz i⟩
  obtain ⟨u, hu⟩ := h.there i hi
  by_cases hij : i = j
  · subst hij; exact ⟨v, World.cell?_setCell_same _ _ _ hu⟩
  · exact ⟨u, (World.cell?_setCell_other _ _ _ _ (by simp <;> omega)).trans hu⟩
theorem Row.drew {w1 w : World} {g n m : Nat} (h : Row w1 w g n m) : Row w1 w.drew g n m := ⟨h.bel.drew, h.lt, h.there, h.fz⟩

/-- The action at block A. -/
structure IsAct (w : World) (A : Nat) (id title desc label : ByteArray) (nc : Nat) (C : Nat → Ch) (ni : Nat) (I : Nat → Inp) : Prop where
  lt : A < w.heap.size
  c0 : w.cell? ⟨A, 0, none⟩ = some (.string id)
  c1 : w.cell? ⟨A, 1, none⟩ = some (.string title)
  c2 : w.cell? ⟨A, 2, none⟩ = some (.string desc)
  c3 : w.cell? ⟨A, 3, none⟩ = some (.string label)
  ch : ∃ co cc, w.cell? ⟨A, 4, none⟩ = some (.slice co nc cc) ∧ PairsAt w co nc C
  inp : ∃ io ic, w.cell? ⟨A, 5, none⟩ = some (.slice io ni ic) ∧ InpsAt w io ni I

/-- The action at block A, its choices laid, its inputs not yet. -/
structure Act1 (w0 w : World) (A : Nat) (id title desc label : ByteArray) (nc : Nat) (C : Nat → Ch) : Prop where
  bel : Below A w0 w
  lt : A < w.heap.size
  c0 : w.cell? ⟨A, 0, none⟩ = some (.string id)
  c1 : w.cell? ⟨A, 1, none⟩ = some (.string title)
  c2 : w.cell? ⟨A, 2, none⟩ = some (.string desc)
  c3 : w.cell? ⟨A, 3, none⟩ = some (.string label)
  ch : ∃ co cc, w.cell? ⟨A, 4, none⟩ = some (.slice co nc cc) ∧ PairsAt w co nc C
  c5 : w.cell? ⟨A, 5, none⟩ = some (.slice none 0 0)
  fz : ∀ j, w.frozen? ⟨A, j, none⟩ = false

def actCells (id title desc label : ByteArray) : Array Value := #[.string id, .string title, .string desc, .string label, .slice none 0 0, .slice none 0 0, .slice none 0 0, .slice none 0 0, .pointer none]

theorem act_start (w : World) (id title desc label : ByteArray) (C : Nat → Ch) : Act1 w (w.alloc (.cells (actCells id title desc label) 66)) w.heap.size id title desc label 0 C := by
  have hb : (w.alloc (.cells (actCells id title desc label) 66)).heap[w.heap.size]? = some (.cells (actCells id title desc label) 66 (0, 0)) := heap_alloc_new _ _
  have c := fun j => cell_of_row (w.alloc (.cells (actCells id title desc label) 66)) w.heap.size j _ 66 _ hb
  exact ⟨(Below.refl _ _).alloc (Nat.le_refl _) _, by simp, c 0, c 1, c 2, c 3, ⟨none, 0, c 4, .inl rfl⟩, c 5, fun j => frozen_of_row _ _ j _ 66 hb⟩

theorem PairsAt.cells {w : World} {g n : Nat} {C : Nat → Ch} (hg : g < w.heap.size) (h : ∀ j, j < n → w.cell? ⟨g, j * 2, none⟩ = some (.string (C j).id) ∧ w.cell? ⟨g, j * 2 + 1, none⟩ = some (.string (C j).label)) : PairsAt w (some ⟨g, 0, none⟩) n C :=
  .inr ⟨g, 0, rfl, hg, fun i hi => by simpa using h i hi⟩

/-- The row of choices is filled and laid into the action. -/
theorem act_ch {w0 W1 w : World} {g : Nat} {id title desc label : ByteArray} {nc : Nat} {C : Nat → Ch} (h : Act1 w0 W1 w0.heap.size id title desc label 0 C) (hg : w0.heap.size < g) (hr : Row W1 w g nc 2)
    (hd : ∀ j, j < nc → w.cell? ⟨g, j * 2, none⟩ = some (.string (C j).id) ∧ w.cell? ⟨g, j * 2 + 1, none⟩ = some (.string (C j).label)) :
    Act1 w0 (w.setCell ⟨w0.heap.size, 4, none⟩ (.slice (some ⟨g, 0, none⟩) nc nc)) w0.heap.size id title desc label nc C := by
  have cc : ∀ j, w.cell? ⟨w0.heap.size, j, none⟩ = W1.cell? ⟨w0.heap.size, j, none⟩ := fun j => hr.bel.cell (p := ⟨_, j, none⟩) hg
  have ff : ∀ j, w.frozen? ⟨w0.heap.size, j, none⟩ = W1.frozen? ⟨w0.heap.size, j, none⟩ := fun j => World.frozen?_of_block (hr.bel.block _ hg)
  have so : ∀ j, j ≠ 4 → (w.setCell ⟨w0.heap.size, 4, none⟩ (.slice (some ⟨g, 0, none⟩) nc nc)).cell? ⟨w0.heap.size, j, none⟩ = W1.cell? ⟨w0.heap.size, j, none⟩ := fun j hj => by
    rw [World.cell?_setCell_other _ _ _ _ (by simp <;> omega)]; exact cc j
  obtain ⟨co, c, h4, _⟩ := h.ch
  refine ⟨(h.bel.trans (hr.bel.mono (by omega))).setCell (p := ⟨_, 4, none⟩) (Nat.le_refl _) _, by have := hr.lt; simp; omega, (so 0 (by omega)).trans h.c0, (so 1 (by omega)).trans h.c1, (so 2 (by omega)).trans h.c2, (so 3 (by omega)).trans h.c3, ⟨some ⟨g, 0, none⟩, nc, ?_, ?_⟩, (so 5 (by omega)).trans h.c5, fun j => by rw [World.frozen?_setCell, ff]; exact h.fz j⟩
  · exact World.cell?_setCell_same _ _ _ ((cc 4).trans h4)
  · refine PairsAt.cells (by simpa using hr.lt) fun j hj => ?_
    obtain ⟨d0, d1⟩ := hd j hj
    exact ⟨(World.cell?_setCell_other _ _ _ _ (by simp <;> omega)).trans d0, (World.cell?_setCell_other _ _ _ _ (by simp <;> omega)).trans d1⟩

theorem Act1.none {w0 w : World} {id title desc label : ByteArray} {nc : Nat} {C : Nat → Ch} (h : Act1 w0 w w0.heap.size id title desc label nc C) (I : Nat → Inp) : IsAct w w0.heap.size id title desc label nc C 0 I :=
  ⟨h.lt, h.c0, h.c1, h.c2, h.c3, h.ch, ⟨_, _, h.c5, .inl rfl⟩⟩

/-- The row of inputs is filled and laid into the action. -/
theorem act_inp {w0 W1 w : World} {g : Nat} {id title desc label : ByteArray} {nc ni : Nat} {C : Nat → Ch} {I : Nat → Inp} (h : Act1 w0 W1 w0.heap.size id title desc label nc C) (hg : W1.heap.size ≤ g) (hr : Row W1 w g ni 3)
    (hd : ∀ j, j < ni → w.cell? ⟨g, j * 3, none⟩ = some (.string (I j).name) ∧ w.cell? ⟨g, j * 3 + 1, none⟩ = some (.string (I j).label) ∧ w.cell? ⟨g, j * 3 + 2, none⟩ = some (.bool (I j).req)) :
    IsAct (w.setCell ⟨w0.heap.size, 5, none⟩ (.slice (some ⟨g, 0, none⟩) ni ni)) w0.heap.size id title desc label nc C ni I ∧ Below w0.heap.size w0 (w.setCell ⟨w0.heap.size, 5, none⟩ (.slice (some ⟨g, 0, none⟩) ni ni)) := by
  have lt := h.lt
  have hb : Below W1.heap.size W1 w := hr.bel.mono hg
  have cc : ∀ j, w.cell? ⟨w0.heap.size, j, none⟩ = W1.cell? ⟨w0.heap.size, j, none⟩ := fun j => hb.cell (p := ⟨_, j, none⟩) lt
  have so : ∀ j, j ≠ 5 → (w.setCell ⟨w0.heap.size, 5, none⟩ (.slice (some ⟨g, 0, none⟩) ni ni)).cell? ⟨w0.heap.size, j, none⟩ = W1.cell? ⟨w0.heap.size, j, none⟩ := fun j hj => by
    rw [World.cell?_setCell_other _ _ _ _ (by simp <;> omega)]; exact cc j
  have hlt := hr.lt
  obtain ⟨co, c, h4, hp⟩ := h.ch
  refine ⟨⟨by simp; omega, (so 0 (by omega)).trans h.c0, (so 1 (by omega)).trans h.c1, (so 2 (by omega)).trans h.c2, (so 3 (by omega)).trans h.c3, ⟨co, c, (so 4 (by omega)).trans h4, ?_⟩, ⟨some ⟨g, 0, none⟩, ni, World.cell?_setCell_same _ _ _ ((cc 5).trans h.c5), ?_⟩⟩, (h.bel.trans (hb.mono (by omega))).setCell (p := ⟨_, 5, none⟩) (Nat.le_refl _) _⟩
  · rcases hp.below hb with h0 | ⟨b, off, rfl, hbl, hc⟩
    · exact .inl h0
    · refine .inr ⟨b, off, rfl, by simpa using hbl, fun i hi => ?_⟩
      obtain ⟨d0, d1⟩ := hc i hi
      by_cases hbA : b = w0.heap.size
      · subst hbA
        refine ⟨?_, ?_⟩
        · by_cases h5 : off + i * 2 = 5
          · rw [h5] at d0; rw [cc 5, h.c5] at d0; cases d0
          · exact (World.cell?_setCell_other _ _ _ _ (by simp <;> omega)).trans d0
        · by_cases h5 : off + i * 2 + 1 = 5
          · rw [h5] at d1; rw [cc 5, h.c5] at d1; cases d1
          · exact (World.cell?_setCell_other _ _ _ _ (by simp <;> omega)).trans d1
      · exact ⟨(World.cell?_setCell_other _ _ _ _ (by simp <;> omega)).trans d0, (World.cell?_setCell_other _ _ _ _ (by simp <;> omega)).trans d1⟩
  · refine .inr ⟨g, 0, rfl, by simpa using hlt, fun i hi => ?_⟩
    obtain ⟨d0, d1, d2⟩ := hd i hi
    simp only [Nat.zero_add]
    exact ⟨(World.cell?_setCell_other _ _ _ _ (by simp <;> omega)).trans d0, (World.cell?_setCell_other _ _ _ _ (by simp <;> omega)).trans d1, (World.cell?_setCell_other _ _ _ _ (by simp <;> omega)).trans d2⟩

theorem fill3 {w1 wl : World} {g n k : Nat} {I : Nat → Inp} (h : Row w1 wl g n 3 ∧ ∀ j, j < k → wl.cell? ⟨g, j * 3, none⟩ = some (.string (I j).name) ∧ wl.cell? ⟨g, j * 3 + 1, none⟩ = some (.string (I j).label) ∧ wl.cell? ⟨g, j * 3 + 2, none⟩ = some (.bool (I j).req)) (hk : k < n) :
    Row w1 (((wl.setCell ⟨g, k * 3, none⟩ (.string (I k).name)).setCell ⟨g, k * 3 + 1, none⟩ (.string (I k).label)).setCell ⟨g, k * 3 + 2, none⟩ (.bool (I k).req)).drew g n 3 ∧
    ∀ j, j < k + 1 → ((((wl.setCell ⟨g, k * 3, none⟩ (.string (I k).name)).setCell ⟨g, k * 3 + 1, none⟩ (.string (I k).label)).setCell ⟨g, k * 3 + 2, none⟩ (.bool (I k).req)).drew).cell? ⟨g, j * 3, none⟩ = some (.string (I j).name) ∧
      ((((wl.setCell ⟨g, k * 3, none⟩ (.string (I k).name)).setCell ⟨g, k * 3 + 1, none⟩ (.string (I k).label)).setCell ⟨g, k * 3 + 2, none⟩ (.bool (I k).req)).drew).cell? ⟨g, j * 3 + 1, none⟩ = some (.string (I j).label) ∧
      ((((wl.setCell ⟨g, k * 3, none⟩ (.string (I k).name)).setCell ⟨g, k * 3 + 1, none⟩ (.string (I k).label)).setCell ⟨g, k * 3 + 2, none⟩ (.bool (I k).req)).drew).cell? ⟨g, j * 3 + 2, none⟩ = some (.bool (I j).req) := by
  have hR1 := h.1.set (j := k * 3) (.string (I k).name)
  have hR2 := hR1.set (j := k * 3 + 1) (.string (I k).label)
  have hR3 := hR2.set (j := k * 3 + 2) (.bool (I k).req)
  refine ⟨hR3.drew, fun j hj => ?_⟩
  by_cases hjk : j = k
  · subst hjk
    obtain ⟨v0, e0⟩ := h.1.there (j * 3) (by omega)
    obtain ⟨v1, e1⟩ := hR1.there (j * 3 + 1) (by omega)
    obtain ⟨v2, e2⟩ := hR2.there (j * 3 + 2) (by omega)
    refine ⟨?_, ?_, World.cell?_setCell_same _ _ _ e2⟩
    · exact (World.cell?_setCell_other _ _ _ _ (by simp <;> omega)).trans ((World.cell?_setCell_other _ _ _ _ (by simp <;> omega)).trans (World.cell?_setCell_same _ _ _ e0))
    · exact (World.cell?_setCell_other _ _ _ _ (by simp <;> omega)).trans (World.cell?_setCell_same _ _ _ e1)
  · obtain ⟨d0, d1, d2⟩ := h.2 j (by omega)
    have far : ∀ i, i ≠ k * 3 → i ≠ k * 3 + 1 → i ≠ k * 3 + 2 → ((((wl.setCell ⟨g, k * 3, none⟩ (.string (I k).name)).setCell ⟨g, k * 3 + 1, none⟩ (.string (I k).label)).setCell ⟨g, k * 3 + 2, none⟩ (.bool (I k).req)).drew).cell? ⟨g, i, none⟩ = wl.cell? ⟨g, i, none⟩ := fun i n0 n1 n2 =>
      (World.cell?_setCell_other _ _ _ _ (by simp <;> omega)).trans ((World.cell?_setCell_other _ _ _ _ (by simp <;> omega)).trans (World.cell?_setCell_other _ _ _ _ (by simp <;> omega)))
    exact ⟨(far _ (by omega) (by omega) (by omega)).trans d0, (far _ (by omega) (by omega) (by omega)).trans d1, (far _ (by omega) (by omega) (by omega)).trans d2⟩

theorem fill2 {w1 wl : World} {g n k : Nat} {C : Nat → Ch} (h : Row w1 wl g n 2 ∧ ∀ j, j < k → wl.cell? ⟨g, j * 2, none⟩ = some (.string (C j).id) ∧ wl.cell? ⟨g, j * 2 + 1, none⟩ = some (.string (C j).label)) (hk : k < n) :
    Row w1 ((wl.setCell ⟨g, k * 2, none⟩ (.string (C k).id)).setCell ⟨g, k * 2 + 1, none⟩ (.string (C k).label)).drew g n 2 ∧
    ∀ j, j < k + 1 → (((wl.setCell ⟨g, k * 2, none⟩ (.string (C k).id)).setCell ⟨g, k * 2 + 1, none⟩ (.string (C k).label)).drew).cell? ⟨g, j * 2, none⟩ = some (.string (C j).id) ∧
      (((wl.setCell ⟨g, k * 2, none⟩ (.string (C k).id)).setCell ⟨g, k * 2 + 1, none⟩ (.string (C k).label)).drew).cell? ⟨g, j * 2 + 1, none⟩ = some (.string (C j).label) := by
  have hR1 := h.1.set (j := k * 2) (.string (C k).id)
  have hR2 := hR1.set (j := k * 2 + 1) (.string (C k).label)
  refine ⟨hR2.drew, fun j hj => ?_⟩
  by_cases hjk : j = k
  · subst hjk
    obtain ⟨v0, e0⟩ := h.1.there (j * 2) (by omega)
    obtain ⟨v1, e1⟩ := hR1.there (j * 2 + 1) (by omega)
    refine ⟨?_, World.cell?_setCell_same _ _ _ e1⟩
    exact (World.cell?_setCell_other _ _ _ _ (by simp <;> omega)).trans (World.cell?_setCell_same _ _ _ e0)
  · obtain ⟨d0, d1⟩ := h.2 j (by omega)
    have far : ∀ i, i ≠ k * 2 → i ≠ k * 2 + 1 → (((wl.setCell ⟨g, k * 2, none⟩ (.string (C k).id)).setCell ⟨g, k * 2 + 1, none⟩ (.string (C k).label)).drew).cell? ⟨g, i, none⟩ = wl.cell? ⟨g, i, none⟩ := fun i n0 n1 =>
      (World.cell?_setCell_other _ _ _ _ (by simp <;> omega)).trans (World.cell?_setCell_other _ _ _ _ (by simp <;> omega))
    exact ⟨(far _ (by omega) (by omega)).trans d0, (far _ (by omega) (by omega)).trans d1⟩

theorem inps_past {w : World} {io : Option Addr} {ni : Nat} {I : Nat → Inp} {A j : Nat} {v : Value} {c : Option Addr} {n k : Nat} (h : InpsAt w io ni I) (hc : w.cell? ⟨A, j, none⟩ = some (.slice c n k)) : InpsAt (w.setCell ⟨A, j, none⟩ v) io ni I := by
  rcases h with h0 | ⟨b, off, rfl, hb, hd⟩
  · exact .inl h0
  · refine .inr ⟨b, off, rfl, by simpa using hb, fun i hi => ?_⟩
    obtain ⟨d0, d1, d2⟩ := hd i hi
    have far : ∀ o u, w.cell? ⟨b, o, none⟩ = some u → (∀ c n k, u ≠ .slice c n k) → (w.setCell ⟨A, j, none⟩ v).cell? ⟨b, o, none⟩ = some u := fun o u hu hne => by
      by_cases e : b = A ∧ o = j
      · obtain ⟨rfl, rfl⟩ := e
        rw [hu] at hc
        exact absurd (Option.some.inj hc) (hne _ _ _)
      · exact (World.cell?_setCell_other _ _ _ _ (by simp <;> omega)).trans hu
    exact ⟨far _ _ d0 (by simp), far _ _ d1 (by simp), far _ _ d2 (by simp)⟩

set_option maxRecDepth 100000 in
set_option maxHeartbeats 1000000 in
theorem f9_any (id title desc label : ByteArray) (co io : Option Addr) (nc ni cc ic : Nat) (C : Nat → Ch) (I : Nat → Inp) (w : World) (hC : PairsAt w co nc C) (hI : InpsAt w io ni I) (hn : co = none → nc = 0) (hn' : io = none → ni = 0) (hnc : nc ≤ 1048576) (hni : ni ≤ 1048576) :
    Calls Try.prog 9 #[.string id, .string title, .string desc, .string label, .slice co nc cc, .slice io ni ic] w fun e w' => ∃ A, e = .returned (.pointer (some ⟨A, 0, none⟩)) ∧ IsAct w' A id title desc label nc C ni I ∧ Below w.heap.size w w' := by
  obtain ⟨i0, hi, hz0, hz1, hz2⟩ := info_parts info67
  obtain ⟨j0, hj, hy0, hy1, hy2⟩ := info_parts info68
  have HI := hide hi
  have HJ := hide hj
  clear hi hj
  have A0 := hide (act_start w id title desc label C)
  obtain ⟨wn, hwn⟩ : ∃ wn, wn = w.alloc (.cells (actCells id title desc label) 66) := ⟨_, rfl⟩
  rw [← hwn] at A0
  have bw : Below w.heap.size w wn := by rw [hwn]; exact (Below.refl _ _).alloc (Nat.le_refl _) _
  have sw : wn.heap.size = w.heap.size + 1 := by rw [hwn]; simp
  have HSW := hide sw
  have HIn : Hid (InpsAt wn io ni I) := hide (hI.below bw)
  have HCn : Hid (PairsAt wn co nc C) := hide (hC.below bw)
  have hwn' : w.alloc (.cells #[.string id, .string title, .string desc, .string label, .slice none 0 0, .slice none 0 0, .slice none 0 0, .slice none 0 0, .pointer none] 66) = wn := hwn.symm
  clear hwn bw sw hC hI
  cases co with
  | none =>
    obtain rfl := hn rfl
    go_enter Try.func9, Try.ntmps9
    cases io with
    | none =>
      obtain rfl := hn' rfl
      have hfin := A0.out.none I
      have hbf := A0.out.bel
      go_wp2_with fail
      go_ret
      exact ⟨_, rfl, hfin, hbf⟩
    | some a =>
      go_wp2_with (refine wpList_make_full _ rfl (.tmp 56) (.tmp 56) 60 rfl wn.heap.size 68 j0 _ 3 Try.underlying60 HJ.out hy0 hy1 .i64 .i64 _ _ ni rfl rfl rfl rfl (by rw [hy2]; omega) (by unfold maxLen; omega) (Nat.le_refl _) ?_)
      intro w5 hown5 hgrow5
      have R5 : Row wn w5 wn.heap.size ni 3 := Row.made hown5 ((Below.refl _ _).grown hgrow5 (Nat.le_refl _) (fun k hk => by cases hk))
      clear hown5 hgrow5
      obtain ⟨g5, hg5⟩ : ∃ g5, g5 = wn.heap.size := ⟨_, rfl⟩
      rw [← hg5] at R5 ⊢
      have HR5 := hide R5
      have HG5 := hide hg5
      clear R5 hg5
      go_wp2_with fail
      go_loopw [17] (fun i wr => ∃ k : Nat, k ≤ ni ∧ i = .int .i64 k ∧ Hid (Row wn wr g5 ni 3 ∧ ∀ j, j < k → wr.cell? ⟨g5, j * 3, none⟩ = some (.string (I j).name) ∧ wr.cell? ⟨g5, j * 3 + 1, none⟩ = some (.string (I j).label) ∧ wr.cell? ⟨g5, j * 3 + 2, none⟩ = some (.bool (I j).req))) (fun i _ => ni - (intOf i).toNat)
      case atStart => exact ⟨0, Nat.zero_le _, rfl, HR5.out, fun j hj => by omega⟩
      case round =>
        rename World => wl
        obtain ⟨k, hk, rfl, HL⟩ := hrel
        by_cases hlt : k < ni
        · have hlt' : (k : Int) < (ni : Int) := by omega
          obtain ⟨b, off, ha, hb, hc⟩ := HIn.out.resolve_left (by omega)
          simp only [Option.some.injEq] at ha
          subst ha
          have hbg : b < g5 := by rw [HG5.out]; exact hb
          have d0 := (HL.out.1.bel.cell (p := ⟨b, _, none⟩) hbg).trans (hc k hlt).1
          have d1 := (HL.out.1.bel.cell (p := ⟨b, _, none⟩) hbg).trans (hc k hlt).2.1
          have d2 := (HL.out.1.bel.cell (p := ⟨b, _, none⟩) hbg).trans (hc k hlt).2.2
          obtain ⟨u0, e0⟩ := HL.out.1.there (k * 3) (by omega)
          obtain ⟨u1, e1⟩ := HL.out.1.there (k * 3 + 1) (by omega)
          obtain ⟨u2, e2⟩ := HL.out.1.there (k * 3 + 2) (by omega)
          have q0 := HL.out.1.fz (k * 3)
          have q1 := HL.out.1.fz (k * 3 + 1)
          have q2 := HL.out.1.fz (k * 3 + 2)
          clear hc
          go_wp2_with fail
          go_region
          have HF := hide (fill3 HL.out hlt)
          go_wp2_with fail
          exact ⟨⟨k + 1, by omega, by go_num, HF⟩, by simp [intOf] <;> omega⟩
        · have hlt' : (ni : Int) ≤ (k : Int) := by omega
          obtain rfl : ni = k := by omega
          obtain ⟨hfin, hbf⟩ := act_inp A0.out (Nat.le_of_eq HG5.out.symm) HL.out.1 HL.out.2
          have e5 : wl.cell? ⟨w.heap.size, 5, none⟩ = some (.slice none 0 0) := (HL.out.1.bel.cell (p := ⟨w.heap.size, 5, none⟩) (by rw [HG5.out]; exact A0.out.lt)).trans A0.out.c5
          have f5 : wl.frozen? ⟨w.heap.size, 5, none⟩ = false := (World.frozen?_of_block (HL.out.1.bel.block _ (by rw [HG5.out]; exact A0.out.lt))).trans (A0.out.fz 5)
          have HF := hide hfin
          have HB := hide hbf
          clear hfin hbf
          go_wp2_with fail
          go_ret
          exact ⟨_, rfl, HF.out, HB.out⟩
  | some a1 =>
    go_enter Try.func9, Try.ntmps9
    go_wp2_with (refine wpList_make_full _ rfl (.tmp 27) (.tmp 27) 59 rfl wn.heap.size 67 i0 _ 2 Try.underlying59 HI.out hz0 hz1 .i64 .i64 _ _ nc rfl rfl rfl rfl (by rw [hz2]; omega) (by unfold maxLen; omega) (Nat.le_refl _) ?_)
    intro w2 hown2 hgrow2
    have R2 : Row wn w2 wn.heap.size nc 2 := Row.made hown2 ((Below.refl _ _).grown hgrow2 (Nat.le_refl _) (fun k hk => by cases hk))
    clear hown2 hgrow2
    obtain ⟨g2, hg2⟩ : ∃ g2, g2 = wn.heap.size := ⟨_, rfl⟩
    rw [← hg2] at R2 ⊢
    have HR2 := hide R2
    have HG2 := hide hg2
    clear R2 hg2
    go_wp2_with fail
    go_loopw [15] (fun i wr => ∃ k : Nat, k ≤ nc ∧ i = .int .i64 k ∧ Hid (Row wn wr g2 nc 2 ∧ ∀ j, j < k → wr.cell? ⟨g2, j * 2, none⟩ = some (.string (C j).id) ∧ wr.cell? ⟨g2, j * 2 + 1, none⟩ = some (.string (C j).label))) (fun i _ => nc - (intOf i).toNat)
    case atStart => exact ⟨0, Nat.zero_le _, rfl, HR2.out, fun j hj => by omega⟩
    case round =>
      rename World => wk
      obtain ⟨k, hk, rfl, HL⟩ := hrel
      by_cases hlt : k < nc
      · have hlt' : (k : Int) < (nc : Int) := by omega
        obtain ⟨b, off, ha, hb, hc⟩ := HCn.out.resolve_left (by omega)
        simp only [Option.some.injEq] at ha
        subst ha
        have hbg : b < g2 := by rw [HG2.out]; exact hb
        have d0 := (HL.out.1.bel.cell (p := ⟨b, _, none⟩) hbg).trans (hc k hlt).1
        have d1 := (HL.out.1.bel.cell (p := ⟨b, _, none⟩) hbg).trans (hc k hlt).2
        obtain ⟨u0, e0⟩ := HL.out.1.there (k * 2) (by omega)
        obtain ⟨u1, e1⟩ := HL.out.1.there (k * 2 + 1) (by omega)
        have q0 := HL.out.1.fz (k * 2)
        have q1 := HL.out.1.fz (k * 2 + 1)
        clear hc
        go_wp2_with fail
        go_region
        have HF := hide (fill2 HL.out hlt)
        go_wp2_with fail
        exact ⟨⟨k + 1, by omega, by go_num, HF⟩, by simp [intOf] <;> omega⟩
      · have hlt' : (nc : Int) ≤ (k : Int) := by omega
        obtain rfl : nc = k := by omega
        have hA : w.heap.size < g2 := by rw [HG2.out, HSW.out]; exact Nat.lt_succ_self _
        obtain ⟨c4, k4, h4, _⟩ := A0.out.ch
        have e4 : wk.cell? ⟨w.heap.size, 4, none⟩ = some (.slice c4 0 k4) := (HL.out.1.bel.cell (p := ⟨w.heap.size, 4, none⟩) hA).trans h4
        have f4 : wk.frozen? ⟨w.heap.size, 4, none⟩ = false := (World.frozen?_of_block (HL.out.1.bel.block _ hA)).trans (A0.out.fz 4)
        have A1 := hide (act_ch A0.out hA HL.out.1 HL.out.2)
        have bwm : Below wn.heap.size wn wk := HL.out.1.bel.mono (Nat.le_of_eq HG2.out.symm)
        have HIm : Hid (InpsAt (wk.setCell ⟨w.heap.size, 4, none⟩ (.slice (some ⟨g2, 0, none⟩) nc nc)) io ni I) := hide (inps_past (HIn.out.below bwm) e4)
        clear HIn hwn'
        obtain ⟨wm, hwm⟩ : ∃ wm, wm = wk.setCell ⟨w.heap.size, 4, none⟩ (.slice (some ⟨g2, 0, none⟩) nc nc) := ⟨_, rfl⟩
        rw [← hwm] at A1 HIm
        have hwm' := hwm.symm
        clear hwm
        have HIn := HIm
        clear HIm
        cases io with
        | none =>
          obtain rfl := hn' rfl
          have hfin := A1.out.none I
          have hbf := A1.out.bel
          go_wp2_with fail
          go_ret
          exact ⟨_, rfl, hfin, hbf⟩
        | some a =>
          go_wp2_with (refine wpList_make_full _ rfl (.tmp 56) (.tmp 56) 60 rfl wm.heap.size 68 j0 _ 3 Try.underlying60 HJ.out hy0 hy1 .i64 .i64 _ _ ni rfl rfl rfl rfl (by rw [hy2]; omega) (by unfold maxLen; omega) (Nat.le_refl _) ?_)
          intro w5 hown5 hgrow5
          have R5 : Row wm w5 wm.heap.size ni 3 := Row.made hown5 ((Below.refl _ _).grown hgrow5 (Nat.le_refl _) (fun k hk => by cases hk))
          clear hown5 hgrow5
          obtain ⟨g5, hg5⟩ : ∃ g5, g5 = wm.heap.size := ⟨_, rfl⟩
          rw [← hg5] at R5 ⊢
          have HR5 := hide R5
          have HG5 := hide hg5
          clear R5 hg5
          go_wp2_with fail
          go_loopw [17] (fun i wr => ∃ k : Nat, k ≤ ni ∧ i = .int .i64 k ∧ Hid (Row wm wr g5 ni 3 ∧ ∀ j, j < k → wr.cell? ⟨g5, j * 3, none⟩ = some (.string (I j).name) ∧ wr.cell? ⟨g5, j * 3 + 1, none⟩ = some (.string (I j).label) ∧ wr.cell? ⟨g5, j * 3 + 2, none⟩ = some (.bool (I j).req))) (fun i _ => ni - (intOf i).toNat)
          case atStart => exact ⟨0, Nat.zero_le _, rfl, HR5.out, fun j hj => by omega⟩
          case round =>
            rename World => wl
            obtain ⟨k, hk, rfl, HL⟩ := hrel
            by_cases hlt : k < ni
            · have hlt' : (k : Int) < (ni : Int) := by omega
              obtain ⟨b, off, ha, hb, hc⟩ := HIn.out.resolve_left (by omega)
              simp only [Option.some.injEq] at ha
              subst ha
              have hbg : b < g5 := by rw [HG5.out]; exact hb
              have d0 := (HL.out.1.bel.cell (p := ⟨b, _, none⟩) hbg).trans (hc k hlt).1
              have d1 := (HL.out.1.bel.cell (p := ⟨b, _, none⟩) hbg).trans (hc k hlt).2.1
              have d2 := (HL.out.1.bel.cell (p := ⟨b, _, none⟩) hbg).trans (hc k hlt).2.2
              obtain ⟨u0, e0⟩ := HL.out.1.there (k * 3) (by omega)
              obtain ⟨u1, e1⟩ := HL.out.1.there (k * 3 + 1) (by omega)
              obtain ⟨u2, e2⟩ := HL.out.1.there (k * 3 + 2) (by omega)
              have q0 := HL.out.1.fz (k * 3)
              have q1 := HL.out.1.fz (k * 3 + 1)
              have q2 := HL.out.1.fz (k * 3 + 2)
              clear hc
              go_wp2_with fail
              go_region
              have HF := hide (fill3 HL.out hlt)
              go_wp2_with fail
              exact ⟨⟨k + 1, by omega, by go_num, HF⟩, by simp [intOf] <;> omega⟩
            · have hlt' : (ni : Int) ≤ (k : Int) := by omega
              obtain rfl : ni = k := by omega
              obtain ⟨hfin, hbf⟩ := act_inp A1.out (Nat.le_of_eq HG5.out.symm) HL.out.1 HL.out.2
              have e5 : wl.cell? ⟨w.heap.size, 5, none⟩ = some (.slice none 0 0) := (HL.out.1.bel.cell (p := ⟨w.heap.size, 5, none⟩) (by rw [HG5.out]; exact A1.out.lt)).trans A1.out.c5
              have f5 : wl.frozen? ⟨w.heap.size, 5, none⟩ = false := (World.frozen?_of_block (HL.out.1.bel.block _ (by rw [HG5.out]; exact A1.out.lt))).trans (A1.out.fz 5)
              have HF := hide hfin
              have HB := hide hbf
              clear hfin hbf
              go_wp2_with fail
              go_ret
              exact ⟨_, rfl, HF.out, HB.out⟩
end Go.Proofs.Qxb6605826a
