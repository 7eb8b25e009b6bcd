/-
  A message that came in, opened.
-/
import Derived.Test.Qxb6614540aViewI
import Derived.ProofKit
import Derived.OpenShut
import Derived.ShutString
import Derived.ChangeOld
import Derived.Below
import Derived.Deep.Slices
namespace Go.Proofs.Qxb6614540a.V
open Go.ChangeShapes Go.WideShapes Go.ChangeAt Go.RowKit Go.Deep

theorem own : ownKnob Try.prog.godebug = none := by kernel_rfl
theorem laidOut : laidOutB Try.prog = true := by kernel_rfl
theorem k3 : Try.prog.cellsOf 3 = 1 := by kernel_rfl
theorem k4 : Try.prog.cellsOf 4 = 1 := by kernel_rfl
theorem k5 : Try.prog.cellsOf 5 = 1 := by kernel_rfl
theorem k9 : Try.prog.cellsOf 9 = 1 := by kernel_rfl
theorem k22 : Try.prog.cellsOf 22 = 1 := by kernel_rfl
theorem k40 : Try.prog.cellsOf 40 = 1 := by kernel_rfl
theorem k42 : Try.prog.cellsOf 42 = 20 := by kernel_rfl
theorem k53 : Try.prog.cellsOf 53 = 1 := by kernel_rfl
theorem k74 : Try.prog.cellsOf 74 = 1 := by kernel_rfl
theorem k76 : Try.prog.cellsOf 76 = 5 := by kernel_rfl
theorem k77 : Try.prog.cellsOf 77 = 1 := by kernel_rfl
theorem k79 : Try.prog.cellsOf 79 = 6 := by kernel_rfl

theorem list_of {α : Type} {n : Nat} {p : Nat → α → Prop} (h : ∀ i, i < n → ∃ r, p i r) : ∃ l : List α, l.length = n ∧ ∀ (k : Nat) (r : α), l[k]? = some r → p k r := by
  induction n with
  | zero => exact ⟨[], rfl, fun k r hk => by simp at hk⟩
  | succ n ih =>
    obtain ⟨l, hl, hp⟩ := ih (fun i hi => h i (by omega))
    obtain ⟨r, hr⟩ := h n (by omega)
    refine ⟨l ++ [r], by simp [hl], fun k r' hk => ?_⟩
    by_cases hkl : k < l.length
    · rw [List.getElem?_append_left hkl] at hk; exact hp k r' hk
    · have : k = l.length := by have := (List.getElem?_eq_some_iff.1 hk).1; simp at this; omega
      subst this
      simp at hk
      subst hk
      rw [hl]; exact hr

section
variable {H : Type} {enc : TypeId × Value → H} {w : World} {spare : Nat → Bool} {held : Bool}

theorem add_at (b o i : Nat) : (⟨b, o, none⟩ : Addr).add i = ⟨b, o + i, none⟩ := by unfold Addr.add; split <;> simp_all

/-- A slice, element by element. -/
theorem open_elems {P : Program} {t e sz fuel : Nat} {v : Value} {x : DataW H × List MemPlace} (ht : P.underlying t = some (.slice e)) (hsz : P.cellsOf e = sz) (hpos : 0 < sz) (h : DataW.trod enc P w 0 spare held fuel t [v] = some x) :
    ∃ ao len cap, v = .slice ao len cap ∧ (len = 0 ∨ ∃ b off, ao = some ⟨b, off, none⟩ ∧ b < w.heap.size ∧
      ∀ i, i < len → ∃ cs y n, cs.length = sz ∧ (∀ j, j < sz → w.cell? ⟨b, off + i * sz + j, none⟩ = cs[j]?) ∧ DataW.trod enc P w 0 spare held n e cs = some y) := by
  rcases open_slice ht h with ⟨hcs, _⟩ | ⟨a, len, cap, m, nn, D, Pl, hcs, _, hl, hm, hmm, _, hx⟩
  · simp at hcs
    exact ⟨none, 0, 0, hcs, .inl rfl⟩
  · simp at hcs
    refine ⟨some a, len, cap, hcs, ?_⟩
    by_cases h0 : len = 0
    · exact .inl h0
    right
    have hlm : len ≤ m := by rw [hmm]; split <;> omega
    obtain ⟨b, off, spot⟩ := a
    rw [hsz] at hx
    obtain ⟨cs0, h1, _⟩ := hx 0 (by omega)
    obtain ⟨_, hl0, hc0⟩ := World.cells?_some h1
    have hsome : ∃ u, w.cell? ⟨b, off, spot⟩ = some u := by
      have := hc0 0 hpos
      rw [List.getElem?_eq_getElem (by omega)] at this
      simp only [Nat.zero_mul, Addr.add, if_true] at this
      exact ⟨_, this⟩
    obtain ⟨u, hu⟩ := hsome
    have hspot : spot = none := by simpa using World.cell?_spot hu
    subst hspot
    refine ⟨b, off, rfl, by simpa using World.block_lt_of_cell? w _ hu, fun i hi => ?_⟩
    obtain ⟨cs, h1, h2⟩ := hx i (by omega)
    obtain ⟨_, hlc, hc⟩ := World.cells?_some h1
    refine ⟨cs, _, nn, hlc, fun j hj => ?_, h2⟩
    have := hc j hj
    rwa [add_at, add_at] at this

/-- One field of a struct, one cell wide. -/
theorem field_at {P : Program} {t fuel : Nat} {fs : Array Field} {cs : List Value} {x : DataW H × List MemPlace} (ht : P.underlying t = some (.struct fs)) (h : DataW.trod enc P w 0 spare held fuel t cs = some x) (i : Nat) (f : Field) (v : Value)
    (hf : fs[i]? = some f) (ho : f.offset = i) (hc : P.cellsOf f.type = 1) (hv : cs[i]? = some v) : ∃ y n, DataW.trod enc P w 0 spare held n f.type [v] = some y := by
  obtain ⟨xs, n, _, _, _, hlen, hall⟩ := DataW.trod_struct ht h
  have := hall i f hf
  have hil : i < xs.length := by rw [hlen]; exact (Array.getElem?_eq_some_iff.1 hf).1
  rw [ho, hc, List.getElem?_eq_getElem hil] at this
  refine ⟨xs[i], n, ?_⟩
  rw [← this]
  congr 1
  obtain ⟨hi', rfl⟩ := List.getElem?_eq_some_iff.1 hv
  rw [List.drop_eq_getElem_cons hi']
  rfl

theorem open_bytes {fuel : Nat} {v : Value} {x : DataW H × List MemPlace} (h : DataW.trod enc Try.prog w 0 spare held fuel 53 [v] = some x) : ∃ ao bs cap, v = .slice ao (bs : List Int).length cap ∧ BytesAt w (Old w) ao bs := by
  obtain ⟨ao, len, cap, rfl, hE⟩ := open_elems Try.underlying53 k5 (by decide) h
  rcases hE with rfl | ⟨b, off, rfl, hb, hE⟩
  · exact ⟨ao, [], cap, rfl, .inl rfl⟩
  · obtain ⟨bs, hl, hp⟩ := list_of (p := fun i (r : Int) => w.cell? ⟨b, off + i, none⟩ = some (.int .u8 r)) (n := len) (fun i hi => by
      obtain ⟨cs, y, n, hlc, hc, ht⟩ := hE i hi
      obtain ⟨r, rfl, _, _⟩ := DataW.trod_int Try.underlying5 ht
      exact ⟨r, by simpa using hc 0 (by decide)⟩)
    exact ⟨_, bs, cap, by rw [hl], .inr ⟨b, off, rfl, hb, hp⟩⟩

theorem open_match {fuel : Nat} {v : Value} {x : DataW H × List MemPlace} (h : DataW.trod enc Try.prog w 0 spare held fuel 77 [v] = some x) : ∃ p mt, v = .pointer p ∧ MatchAt w (Old w) p mt := by
  rcases DataW.trod_pointer Try.underlying77 h with ⟨hcs, _⟩ | ⟨a, cs, y, n, _, hcs, _, hc, ht⟩
  · simp at hcs
    exact ⟨none, none, hcs, .inl ⟨rfl, rfl⟩⟩
  · simp at hcs
    obtain ⟨r, rfl, _, _⟩ := DataW.trod_int Try.underlying22 ht
    rw [k22] at hc
    obtain ⟨_, _, hcc⟩ := World.cells?_some hc
    have h0 := hcc 0 (by decide)
    obtain ⟨b, off, spot⟩ := a
    simp only [Addr.add, if_true, List.getElem?_cons_zero] at h0
    have hspot : spot = none := by simpa using World.cell?_spot h0
    subst hspot
    exact ⟨_, some r, hcs, .inr ⟨b, off, r, rfl, rfl, World.block_lt_of_cell? w _ h0, h0⟩⟩

theorem list5 {l : List Value} (h : l.length = 5) : ∃ a b c d e, l = [a, b, c, d, e] := by
  match l, h with
  | [a, b, c, d, e], _ => exact ⟨a, b, c, d, e, rfl⟩
theorem list6 {l : List Value} (h : l.length = 6) : ∃ a b c d e f, l = [a, b, c, d, e, f] := by
  match l, h with
  | [a, b, c, d, e, f], _ => exact ⟨a, b, c, d, e, f, rfl⟩

theorem open_mem {fuel : Nat} {cs : List Value} {x : DataW H × List MemPlace} {b o : Nat} (hl : cs.length = 6) (hc : ∀ j, j < 6 → w.cell? ⟨b, o + j, none⟩ = cs[j]?) (h : DataW.trod enc Try.prog w 0 spare held fuel 79 cs = some x) : ∃ m, MemAt w (Old w) b o m := by
  obtain ⟨v0, v1, v2, v3, v4, v5, rfl⟩ := list6 hl
  obtain ⟨_, _, h0⟩ := field_at Try.underlying79 h 0 _ v0 rfl rfl k22 rfl
  obtain ⟨_, _, h1⟩ := field_at Try.underlying79 h 1 _ v1 rfl rfl k9 rfl
  obtain ⟨_, _, h2⟩ := field_at Try.underlying79 h 2 _ v2 rfl rfl k4 rfl
  obtain ⟨_, _, h3⟩ := field_at Try.underlying79 h 3 _ v3 rfl rfl k5 rfl
  obtain ⟨_, _, h4⟩ := field_at Try.underlying79 h 4 _ v4 rfl rfl k77 rfl
  obtain ⟨_, _, h5⟩ := field_at Try.underlying79 h 5 _ v5 rfl rfl k22 rfl
  obtain ⟨r0, e0, _, _⟩ := DataW.trod_int Try.underlying22 h0
  obtain ⟨r1, e1, _, _⟩ := DataW.trod_string Try.underlying9 h1
  obtain ⟨r2, e2, _⟩ := DataW.trod_bool Try.underlying4 h2
  obtain ⟨r3, e3, _, _⟩ := DataW.trod_int Try.underlying5 h3
  obtain ⟨p, mt, e4, hm⟩ := open_match h4
  obtain ⟨r5, e5, _, _⟩ := DataW.trod_int Try.underlying22 h5
  simp at e0 e1 e2 e3 e5
  subst e0 e1 e2 e3 e4 e5
  exact ⟨⟨r0, r1, r2, r3, mt, r5⟩, p, hc 0 (by decide), hc 1 (by decide), hc 2 (by decide), hc 3 (by decide), hc 4 (by decide), hc 5 (by decide), hm⟩

theorem open_mems {fuel : Nat} {v : Value} {x : DataW H × List MemPlace} (h : DataW.trod enc Try.prog w 0 spare held fuel 74 [v] = some x) : ∃ ao ms cap, v = .slice ao (ms : List Mb).length cap ∧ MemsAt w (Old w) ao ms := by
  obtain ⟨ao, len, cap, rfl, hE⟩ := open_elems Try.underlying74 k79 (by decide) h
  rcases hE with rfl | ⟨b, off, rfl, hb, hE⟩
  · exact ⟨ao, [], cap, rfl, .inl rfl⟩
  · obtain ⟨ms, hl, hp⟩ := list_of (p := fun i (m : Mb) => MemAt w (Old w) b (off + i * 6) m) (n := len) (fun i hi => by
      obtain ⟨cs, y, n, hlc, hc, ht⟩ := hE i hi
      exact open_mem hlc hc ht)
    exact ⟨_, ms, cap, by rw [hl], .inr ⟨b, off, rfl, hb, hp⟩⟩

theorem open_entry {fuel : Nat} {cs : List Value} {x : DataW H × List MemPlace} {b o : Nat} (hl : cs.length = 5) (hc : ∀ j, j < 5 → w.cell? ⟨b, o + j, none⟩ = cs[j]?) (h : DataW.trod enc Try.prog w 0 spare held fuel 76 cs = some x) : ∃ e, EntryAt w (Old w) (Old w) b o e := by
  obtain ⟨v0, v1, v2, v3, v4, rfl⟩ := list5 hl
  obtain ⟨_, _, h0⟩ := field_at Try.underlying76 h 0 _ v0 rfl rfl k22 rfl
  obtain ⟨_, _, h1⟩ := field_at Try.underlying76 h 1 _ v1 rfl rfl k22 rfl
  obtain ⟨_, _, h2⟩ := field_at Try.underlying76 h 2 _ v2 rfl rfl k53 rfl
  obtain ⟨_, _, h3⟩ := field_at Try.underlying76 h 3 _ v3 rfl rfl k4 rfl
  obtain ⟨_, _, h4⟩ := field_at Try.underlying76 h 4 _ v4 rfl rfl k74 rfl
  obtain ⟨r0, e0, _, _⟩ := DataW.trod_int Try.underlying22 h0
  obtain ⟨r1, e1, _, _⟩ := DataW.trod_int Try.underlying22 h1
  obtain ⟨ca, bs, cc, e2, hbs⟩ := open_bytes h2
  obtain ⟨r3, e3, _⟩ := DataW.trod_bool Try.underlying4 h3
  obtain ⟨ma, ms, mc, e4, hms⟩ := open_mems h4
  simp at e0 e1 e3
  subst e0 e1 e2 e3 e4
  exact ⟨⟨r0, r1, ca.isNone, bs, r3, ma.isNone, ms⟩, ca, cc, ma, mc, hc 0 (by decide), hc 1 (by decide), hc 2 (by decide), hc 3 (by decide), hc 4 (by decide), hbs, rfl, hms, rfl⟩

theorem open_ents {fuel : Nat} {v : Value} {x : DataW H × List MemPlace} (h : DataW.trod enc Try.prog w 0 spare held fuel 40 [v] = some x) : ∃ ao es cap, v = .slice ao (es : List En).length cap ∧ EntsAt w (Old w) (Old w) ao es := by
  obtain ⟨ao, len, cap, rfl, hE⟩ := open_elems Try.underlying40 k76 (by decide) h
  rcases hE with rfl | ⟨b, off, rfl, hb, hE⟩
  · exact ⟨ao, [], cap, rfl, .inl rfl⟩
  · obtain ⟨es, hl, hp⟩ := list_of (p := fun i (e : En) => EntryAt w (Old w) (Old w) b (off + i * 5) e) (n := len) (fun i hi => by
      obtain ⟨cs, y, n, hlc, hc, ht⟩ := hE i hi
      exact open_entry hlc hc ht)
    exact ⟨_, es, cap, by rw [hl], .inr ⟨b, off, rfl, hb, hp⟩⟩

set_option maxRecDepth 100000 in
theorem open_msg {v : Value} {d : DataW H} {ps : List MemPlace} {r : Reach} {b0 : Nat} (hv : Value.okWide Try.prog w r b0 42 v) (h : DataW.Trod enc Try.prog w 0 spare held 42 v d ps) : ∃ hd M nil es, v = .agg M ∧ IsMsg w hd M nil es := by
  obtain ⟨M, rfl, hM⟩ := okWide_struct Try.underlying42 hv
  rw [k42] at hM
  obtain ⟨fuel, hf⟩ := h
  obtain ⟨l⟩ := M
  obtain ⟨m0, m1, m2, m3, m4, m5, m6, m7, m8, m9, m10, m11, m12, m13, m14, m15, m16, m17, m18, m19, rfl⟩ := list20 (l := l) (by simpa using hM)
  change DataW.trod enc Try.prog w 0 spare held fuel 42 [m0, m1, m2, m3, m4, m5, m6, m7, m8, m9, m10, m11, m12, m13, m14, m15, m16, m17, m18, m19] = some (d, ps) at hf
  obtain ⟨_, _, h0⟩ := field_at Try.underlying42 hf 0 _ m0 rfl rfl k3 rfl
  obtain ⟨r0, e0, _, _⟩ := DataW.trod_int Try.underlying3 h0
  obtain ⟨_, _, h1⟩ := field_at Try.underlying42 hf 1 _ m1 rfl rfl k3 rfl
  obtain ⟨r1, e1, _, _⟩ := DataW.trod_int Try.underlying3 h1
  obtain ⟨_, _, h2⟩ := field_at Try.underlying42 hf 2 _ m2 rfl rfl k5 rfl
  obtain ⟨r2, e2, _, _⟩ := DataW.trod_int Try.underlying5 h2
  obtain ⟨_, _, h3⟩ := field_at Try.underlying42 hf 3 _ m3 rfl rfl k5 rfl
  obtain ⟨r3, e3, _, _⟩ := DataW.trod_int Try.underlying5 h3
  obtain ⟨_, _, h4⟩ := field_at Try.underlying42 hf 4 _ m4 rfl rfl k22 rfl
  obtain ⟨r4, e4, _, _⟩ := DataW.trod_int Try.underlying22 h4
  obtain ⟨_, _, h5⟩ := field_at Try.underlying42 hf 5 _ m5 rfl rfl k22 rfl
  obtain ⟨r5, e5, _, _⟩ := DataW.trod_int Try.underlying22 h5
  obtain ⟨_, _, h6⟩ := field_at Try.underlying42 hf 6 _ m6 rfl rfl k22 rfl
  obtain ⟨r6, e6, _, _⟩ := DataW.trod_int Try.underlying22 h6
  obtain ⟨_, _, h7⟩ := field_at Try.underlying42 hf 7 _ m7 rfl rfl k22 rfl
  obtain ⟨r7, e7, _, _⟩ := DataW.trod_int Try.underlying22 h7
  obtain ⟨_, _, h8⟩ := field_at Try.underlying42 hf 8 _ m8 rfl rfl k22 rfl
  obtain ⟨r8, e8, _, _⟩ := DataW.trod_int Try.underlying22 h8
  obtain ⟨_, _, h9⟩ := field_at Try.underlying42 hf 9 _ m9 rfl rfl k22 rfl
  obtain ⟨r9, e9, _, _⟩ := DataW.trod_int Try.underlying22 h9
  obtain ⟨_, _, h10⟩ := field_at Try.underlying42 hf 10 _ m10 rfl rfl k22 rfl
  obtain ⟨r10, e10, _, _⟩ := DataW.trod_int Try.underlying22 h10
  obtain ⟨_, _, h11⟩ := field_at Try.underlying42 hf 11 _ m11 rfl rfl k40 rfl
  obtain ⟨ao, es, cap, e11, hE⟩ := open_ents h11
  obtain ⟨_, _, h12⟩ := field_at Try.underlying42 hf 12 _ m12 rfl rfl k22 rfl
  obtain ⟨r12, e12, _, _⟩ := DataW.trod_int Try.underlying22 h12
  obtain ⟨_, _, h13⟩ := field_at Try.underlying42 hf 13 _ m13 rfl rfl k4 rfl
  obtain ⟨r13, e13, _⟩ := DataW.trod_bool Try.underlying4 h13
  obtain ⟨_, _, h14⟩ := field_at Try.underlying42 hf 14 _ m14 rfl rfl k22 rfl
  obtain ⟨r14, e14, _, _⟩ := DataW.trod_int Try.underlying22 h14
  obtain ⟨_, _, h15⟩ := field_at Try.underlying42 hf 15 _ m15 rfl rfl k22 rfl
  obtain ⟨r15, e15, _, _⟩ := DataW.trod_int Try.underlying22 h15
  obtain ⟨_, _, h16⟩ := field_at Try.underlying42 hf 16 _ m16 rfl rfl k22 rfl
  obtain ⟨r16, e16, _, _⟩ := DataW.trod_int Try.underlying22 h16
  obtain ⟨_, _, h17⟩ := field_at Try.underlying42 hf 17 _ m17 rfl rfl k22 rfl
  obtain ⟨r17, e17, _, _⟩ := DataW.trod_int Try.underlying22 h17
  obtain ⟨_, _, h18⟩ := field_at Try.underlying42 hf 18 _ m18 rfl rfl k22 rfl
  obtain ⟨r18, e18, _, _⟩ := DataW.trod_int Try.underlying22 h18
  obtain ⟨_, _, h19⟩ := field_at Try.underlying42 hf 19 _ m19 rfl rfl k22 rfl
  obtain ⟨r19, e19, _, _⟩ := DataW.trod_int Try.underlying22 h19
  simp at e0 e1 e2 e3 e4 e5 e6 e7 e8 e9 e10 e12 e13 e14 e15 e16 e17 e18 e19
  subst e0 e1 e2 e3 e4 e5 e6 e7 e8 e9 e10 e11 e12 e13 e14 e15 e16 e17 e18 e19
  exact ⟨⟨r0, r1, r2, r3, r4, r5, r6, r7, r8, r9, r10, r12, r13, r14, r15, r16, r17, r18, r19⟩, _, _, es, rfl, ao, cap, rfl, rfl, hE⟩
end
end Go.Proofs.Qxb6614540a.V
