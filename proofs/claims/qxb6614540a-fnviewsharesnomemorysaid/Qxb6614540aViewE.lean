/-
  view, ZZview.
-/
import Derived.Test.Qxb6614540aViewD
import Derived.Deep.MidRow
namespace Go.Proofs.Qxb6614540a.V
open Go.RowKit

theorem size49 : (Try.prog.info? 49).map (·.size) = some 20 := by kernel_rfl
theorem info56 : (Try.prog.info? 56).map (fun i => (i.zero, i.size, i.bytes)) = some (some (.agg #[.int .u64 0, .int .u64 0, .slice none 0 0, .bool false, .slice none 0 0]), 5, 72) := by kernel_rfl

/-- A store of a whole row: the world behind it a letter. -/
theorem wpList_store_abs {P : Program} {w : World} {ops : Array Oper} {rest : List Oper} {o : Oper} {a : Act} {Q : Exit → Act → World → Prop} (hgd : o.guard = none) (ty : TypeId) (x y : Operand) (ho : o.op = .store ty x y)
    (g : Nat) (cells : Array Value) (hx : a.eval x = .pointer (some ⟨g, 0, none⟩)) (hy : a.eval y = .agg cells)
    (t : TypeId) (old : Array Value) (hg : w.heap[g]? = some (.cells old t (0, 0))) (hi : (P.info? ty).map (·.size) = some cells.size)
    (hold : old.size = cells.size) (h1 : cells.all (·.oneCell') = true)
    (h : ∀ w', w'.heap[g]? = some (.cells cells t (0, 0)) → w.grownBy w' (some g) → wpList P ops Q rest (a.put o.dst undef) w') : wpList P ops Q (o :: rest) a w :=
  wpList_store_row hgd ty x y ho g cells hx hy t old hg hi hold h1
    (h _ (setRow_heap w g old cells t _ hg) ⟨rfl, rfl, rfl, by simp, fun k _ hk => setRow_other w g k _ (fun e => hk (by simp [e]))⟩)

/-- The zero value of a message. -/
def zero49 : Array Value := #[.int .i64 0, .int .i64 0, .int .u8 0, .int .u8 0, .int .u64 0, .int .u64 0, .int .u64 0, .int .u64 0, .int .u64 0, .int .u64 0, .int .u64 0, .slice none 0 0,
    .int .u64 0, .bool false, .int .u64 0, .int .u64 0, .int .u64 0, .int .u64 0, .int .u64 0, .int .u64 0]

theorem own_keep {w w' : World} {base : Nat} {e : TypeId} {size : Nat} {v : Value} {n : Nat} {xs : List Value} (h : w.ownsRow base e size v n xs) (hk : ∀ g, v.ownBlock = some g → w'.heap[g]? = w.heap[g]?) : w'.ownsRow base e size v n xs := by
  refine ⟨h.1, ?_⟩
  rcases h.2 with hn | ⟨g, cap, cur, rfl, hb, hg, rest⟩
  · exact .inl hn
  · exact .inr ⟨g, cap, cur, rfl, hb, (hk g rfl).trans hg, rest⟩

/-- Blocks of commands: new ones that may be written, the entries' own row not among them. -/
structure CmdOf (B : Nat) (w : World) (v : Value) (b : Nat) : Prop where
  new : New B w b
  ne : some b ≠ v.ownBlock

/-- Five cells out of a list. -/
def ValsAt (w : World) (C S : Nat → Prop) (vals : List Value) (o : Nat) (e : En) : Prop :=
  ∃ ca cc ma mc, vals[o]? = some (.int .u64 e.index) ∧ vals[o + 1]? = some (.int .u64 e.term) ∧ vals[o + 2]? = some (.slice ca e.cmd.length cc) ∧
    vals[o + 3]? = some (.bool e.noop) ∧ vals[o + 4]? = some (.slice ma e.mem.length mc) ∧ Within w C S ca ma e

/-- The slice v, built from block B on, holds the entries es; their members lie below block O. -/
def Viewed (B O : Nat) (w : World) (v : Value) (es : List En) : Prop :=
  ∃ vals, w.ownsRow B 56 5 v es.length vals ∧ ∀ (j : Nat) (e : En), es[j]? = some e → ValsAt w (CmdOf B w v) (fun b => b < O) vals (j * 5) e

theorem Viewed.nil (B O : Nat) (w : World) : Viewed B O w (.slice none 0 0) [] := ⟨[], World.ownsRow_nil _ _ _ _, fun j e h => by simp at h⟩

theorem view_step {B O H : Nat} {wr w2 w4 : World} {v v' : Value} {es : List En} {e : En} {vals : List Value} {ca : Option Addr} {cc : Nat} {ma : Option Addr} {mc g : Nat}
    (hH : wr.heap.size = H) (k1 : ∀ b, b < H → some b ≠ v.ownBlock → b ≠ B - 1 → w4.heap[b]? = wr.heap[b]?) (k2 : ∀ b, H < b → b < w2.heap.size → w4.heap[b]? = w2.heap[b]?) (hBO : O < B) (hBH : B ≤ H)
    (hown : w4.ownsRow B 56 5 v' (es.length + 1) (vals ++ [.int .u64 e.index, .int .u64 e.term, .slice ca e.cmd.length cc, .bool e.noop, .slice ma e.mem.length mc]))
    (hv' : v'.ownBlock = some g) (hg : v.ownBlock = some g ∨ w2.heap.size < g) (h24 : w2.heap.size ≤ w4.heap.size) (hH2 : H ≤ w2.heap.size)
    (hold : wr.ownsRow B 56 5 v es.length vals) (hV : ∀ (j : Nat) (e : En), es[j]? = some e → ValsAt wr (CmdOf B wr v) (fun b => b < O) vals (j * 5) e)
    (hcmd : BytesAt w2 (New (H + 1) w2) ca e.cmd) (hN : ca.isNone = e.cmdN) (hmem : MemsAt wr (fun b => b < O) ma e.mem) (hmN : ma.isNone = e.memN)
    (kO : ∀ b, b < O → w4.heap[b]? = wr.heap[b]?) : Viewed B O w4 v' (es ++ [e]) := by
  have hlen := hold.1
  refine ⟨_, by rw [List.length_append]; exact hown, fun j e' hj => ?_⟩
  by_cases hjl : j < es.length
  · rw [List.getElem?_append_left hjl] at hj
    obtain ⟨ca', cc', ma', mc', c0, c1, c2, c3, c4, hw⟩ := hV j e' hj
    have up : ∀ i, i < 5 → ∀ x, vals[j * 5 + i]? = some x → (vals ++ [.int .u64 e.index, .int .u64 e.term, .slice ca e.cmd.length cc, .bool e.noop, .slice ma e.mem.length mc])[j * 5 + i]? = some x := fun i hi x hx => by
      rw [List.getElem?_append_left (by omega)]; exact hx
    refine ⟨ca', cc', ma', mc', up 0 (by omega) _ c0, up 1 (by omega) _ c1, up 2 (by omega) _ c2, up 3 (by omega) _ c3, up 4 (by omega) _ c4, ?_⟩
    refine hw.move (fun b hb => k1 b (by have := hb.new.lt; omega) hb.ne (by have := hb.new.ge; omega)) (fun b hb => ?_) kO (fun b hb => hb)
    have hbH : b < H := by have := hb.new.lt; omega
    have hsame := k1 b hbH hb.ne (by have := hb.new.ge; omega)
    refine ⟨⟨hb.new.ge, by omega, fun jj => (World.frozen?_of_block (w := wr) (a := ⟨b, jj, none⟩) hsame).trans (hb.new.fz jj)⟩, ?_⟩
    rw [hv']
    rcases hg with hg | hg
    · rw [← hg]; exact hb.ne
    · intro e; cases e; omega
  · have hjk : j = es.length := by
      have := (List.getElem?_eq_some_iff.1 hj).1
      simp at this; omega
    subst hjk
    simp at hj
    subst hj
    have at_ : ∀ i, (vals ++ [Value.int .u64 e.index, .int .u64 e.term, .slice ca e.cmd.length cc, .bool e.noop, .slice ma e.mem.length mc])[es.length * 5 + i]? = [Value.int .u64 e.index, .int .u64 e.term, .slice ca e.cmd.length cc, .bool e.noop, .slice ma e.mem.length mc][i]? := fun i => by
      rw [List.getElem?_append_right (by omega), hlen, Nat.add_sub_cancel_left]
    refine ⟨ca, cc, ma, mc, at_ 0, at_ 1, at_ 2, at_ 3, at_ 4, ?_, hN, hmem.move kO (fun b hb => hb), hmN⟩
    refine hcmd.move (fun b hb => k2 b (by have := hb.ge; omega) hb.lt) (fun b hb => ?_)
    have hsame := k2 b (by have := hb.ge; omega) hb.lt
    refine ⟨⟨by have := hb.ge; omega, by have := hb.lt; omega, fun jj => (World.frozen?_of_block (w := w2) (a := ⟨b, jj, none⟩) hsame).trans (hb.fz jj)⟩, ?_⟩
    rw [hv']
    intro e2
    obtain rfl : b = g := by simpa using e2
    rcases hg with hg | hg
    · have := (hold.lt b hg).2; have := hb.ge; omega
    · have := hb.lt; omega

/-- The entries of a view: row and commands in new memory from block O on, the row apart from the commands; members below block Z. -/
def ViewEnts (O Z : Nat) (w' : World) (ao : Option Addr) (es : List En) : Prop :=
  es = [] ∨ ∃ g, ao = some ⟨g, 0, none⟩ ∧ New O w' g ∧ ∀ (j : Nat) (e : En), es[j]? = some e → EntryAt w' (fun b => New O w' b ∧ b ≠ g) (fun b => b < Z) g (j * 5) e

theorem viewed_end {O Z n cap2 : Nat} {wr w5 : World} {ao2 : Option Addr} {es : List En} (h : Viewed (O + 2) Z wr (.slice ao2 n cap2) es) (hZ : Z ≤ O) (hk : ∀ b, b < wr.heap.size → b ≠ O → w5.heap[b]? = wr.heap[b]?) (_hO : O < wr.heap.size) (hsz : wr.heap.size ≤ w5.heap.size) : ViewEnts O Z w5 ao2 es := by
  obtain ⟨vals, hown, hV⟩ := h
  cases hes : es.length with
  | zero => exact .inl (List.eq_nil_of_length_eq_zero hes)
  | succ m =>
    obtain ⟨g, cap', hv, hb, hg⟩ := hown.form (by omega)
    obtain ⟨rfl, hn, rfl⟩ : ao2 = some ⟨g, 0, none⟩ ∧ n = es.length ∧ cap2 = cap' := by cases hv; exact ⟨rfl, rfl, rfl⟩
    rw [hn] at hown hV
    have hsame := hk g hg (by omega)
    have newof : ∀ b, New (O + 2) wr b → w5.heap[b]? = wr.heap[b]? := fun b hb => hk b hb.lt (by have := hb.ge; omega)
    refine .inr ⟨g, rfl, ⟨by omega, by omega, fun j => (World.frozen?_of_block (w := wr) (a := ⟨g, j, none⟩) hsame).trans (hown.frozenAt j)⟩, fun j e he => ?_⟩
    obtain ⟨ca, cc, ma, mc, c0, c1, c2, c3, c4, hw⟩ := hV j e he
    have hj : j < es.length := (List.getElem?_eq_some_iff.1 he).1
    have at_ : ∀ i x, i < 5 → vals[j * 5 + i]? = some x → w5.cell? ⟨g, j * 5 + i, none⟩ = some x := fun i x hi hx => cell_same hsame ((hown.cellAt _ (by omega)).trans hx)
    refine ⟨ca, cc, ma, mc, at_ 0 _ (by omega) c0, at_ 1 _ (by omega) c1, at_ 2 _ (by omega) c2, at_ 3 _ (by omega) c3, at_ 4 _ (by omega) c4, ?_⟩
    refine hw.move (fun b hb => newof b hb.new) (fun b hb => ⟨⟨by have := hb.new.ge; omega, by have := hb.new.lt; omega, fun jj => (World.frozen?_of_block (w := wr) (a := ⟨b, jj, none⟩) (newof b hb.new)).trans (hb.new.fz jj)⟩, fun e => hb.ne (by rw [e]; rfl)⟩)
      (fun b hb => hk b (by omega) (by omega)) (fun b hb => hb)

/-- What view answers. -/
def ViewRes (Z : Nat) (w : World) (M : Array Value) (es : List En) (e : Ending) (w' : World) : Prop :=
  ∃ ao2 cap2, e = .returned (.agg (M.setIfInBounds 11 (.slice ao2 es.length cap2))) ∧ ao2.isNone = es.isEmpty ∧ ViewEnts w.heap.size Z w' ao2 (es.map viewEn) ∧ Below w.heap.size w w'

theorem chain1 {wr w2 : World} {X Y : Obj} {u : Value} (hb2 : Below (wr.heap.size + 1) (wr.alloc X) w2) {b : Nat} (hb : b < wr.heap.size) : ((w2.setCell ⟨wr.heap.size, 2, none⟩ u).alloc Y).heap[b]? = wr.heap[b]? := by
  have hs : wr.heap.size + 1 ≤ w2.heap.size := by have := hb2.size; simpa using this
  rw [Below.heap_alloc _ _ _ (by simp; omega), heap_setCell_other _ _ _ _ (by simp; omega), hb2.block b (by omega), Below.heap_alloc _ _ _ hb]
theorem chain2 {wr w2 : World} {Y : Obj} {u : Value} {b : Nat} (h1 : wr.heap.size < b) (h2 : b < w2.heap.size) : ((w2.setCell ⟨wr.heap.size, 2, none⟩ u).alloc Y).heap[b]? = w2.heap[b]? := by
  rw [Below.heap_alloc _ _ _ (by simp; omega), heap_setCell_other _ _ _ _ (by simp; omega)]

theorem all_set {M : Array Value} {v : Value} {i : Nat} (h : M.all (·.oneCell') = true) (hv : v.oneCell' = true) : (M.setIfInBounds i v).all (·.oneCell') = true := by
  rw [Array.all_eq_true_iff_forall_mem] at *
  intro x hx
  rcases Array.mem_or_eq_of_mem_setIfInBounds hx with hx | rfl
  · exact h x hx
  · exact hv

theorem take_view {es : List En} {k : Nat} {e : En} (h : es[k]? = some e) : (es.take (k + 1)).map viewEn = (es.take k).map viewEn ++ [viewEn e] := by
  obtain ⟨hk, rfl⟩ := List.getElem?_eq_some_iff.1 h
  rw [List.take_succ_eq_append_getElem hk, List.map_append]
  rfl

set_option maxRecDepth 100000 in
set_option maxHeartbeats 1000000 in
theorem f31_any (Z : Nat) (M : Array Value) (p : Nat) (ao : Option Addr) (cap : Nat) (es : List En) (w : World) (hp : p < w.heap.size) (hr : w.rangeAt p 0 M.toList) (hM : M.size = 20) (hM1 : M.all (·.oneCell') = true) (h11 : M[11]? = some (.slice ao es.length cap))
    (hm : EntsAt w (fun b => b < Z) (fun b => b < Z) ao es) (hZ : Z ≤ w.heap.size) (hf : Fits es) :
    Calls Try.prog 31 #[.pointer (some ⟨p, 0, none⟩)] w fun e w' => ViewRes Z w M es e w' := by
  obtain ⟨n, hes⟩ : ∃ n, es.length = n := ⟨_, rfl⟩
  rw [hes] at h11
  have HN := hide hes
  have hn65 : n ≤ 65536 := hes ▸ hf.n
  have c11 : w.cell? ⟨p, 11, none⟩ = some (.slice ao n cap) := by simpa using hr 11 (.slice ao n cap) (by simpa using h11)
  have HR := hide hr
  have HM := hide hM
  have HM1 := hide hM1
  have H11 := hide h11
  clear hes hr hM hM1 h11
  obtain ⟨i0, hi, hz0, hz1, hz2⟩ := info_parts info56
  go_enter Try.func31, Try.ntmps31
  go_wp2_with (first | (refine wpList_load_mid rfl 49 (.tmp 8) rfl p 0 rfl M.toList _ ?hc Try.underlying49 rfl ?hi ?_) | (refine wpList_store_abs rfl 49 (.tmp 3) (.tmp 9) rfl (w.heap.size + 1) M rfl rfl 49 zero49 ?hg ?hi2 ?ho ?h1 ?_))
  case hc => exact World.rangeAt_alloc HR.out _
  case hi => rw [Array.length_toList, HM.out]; exact size49
  case hg => exact heap_alloc2_new _ _ _
  case hi2 => rw [HM.out]; exact size49
  case ho => rw [HM.out]; rfl
  case h1 => exact HM1.out
  intro w1 hb1 hg1
  have hB1 : Below w.heap.size w w1 := (((Below.refl _ _).alloc (Nat.le_refl _) _).alloc (by simp) _).grown hg1 (by simp; omega) (fun k hk => by cases hk; omega)
  have hb0 : w1.heap[w.heap.size]? = some (.cells zero49 49 (0, 0)) := (hg1.block w.heap.size (by simp; omega) (by simp)).trans (heap_alloc2_old _ _ _)
  have hsz : w.heap.size + 2 ≤ w1.heap.size := by have := hg1.size; simpa using this
  clear hg1
  have e11 : w1.cell? ⟨w.heap.size + 1, 11, none⟩ = some (.slice ao n cap) := (cell_of_row w1 _ 11 M 49 _ hb1).trans H11.out
  have f11 : w1.frozen? ⟨w.heap.size + 1, 11, none⟩ = false := frozen_of_row w1 _ 11 M 49 hb1
  have d11 := (hB1.cell (p := ⟨p, 11, none⟩) hp).trans c11
  have HB0 := hide hb0
  have HB1 := hide hb1
  clear hb0 hb1
  go_wp2_with fail
  go_loopw [17] (fun i wr => ∃ (k : Nat) (ao2 : Option Addr) (cap2 : Nat), k ≤ n ∧ i = .int .i64 k ∧ wr.cell? ⟨w.heap.size + 1, 11, none⟩ = some (.slice ao2 k cap2) ∧ wr.frozen? ⟨w.heap.size + 1, 11, none⟩ = false ∧ Below w.heap.size w wr ∧ w.heap.size + 2 ≤ wr.heap.size ∧
      Hid (wr.heap[w.heap.size]? = some (.cells zero49 49 (0, 0)) ∧ wr.heap[w.heap.size + 1]? = some (.cells (M.setIfInBounds 11 (.slice ao2 k cap2)) 49 (0, 0)) ∧ (k = 0 → ao2 = none ∧ cap2 = 0)) ∧ Viewed (w.heap.size + 2) Z wr (.slice ao2 k cap2) ((es.take k).map viewEn))
    (fun i _ => n - (intOf i).toNat)
  case atStart =>
    refine ⟨0, none, 0, Nat.zero_le _, rfl, ?_, ?_, hB1.setCell (p := ⟨w.heap.size + 1, 11, none⟩) (by simp) _, by simpa using hsz, ⟨?_, ?_, fun _ => ⟨rfl, rfl⟩⟩, Viewed.nil _ _ _⟩
    · simpa using World.cell?_setCell_same w1 ⟨w.heap.size + 1, 11, none⟩ (.slice none 0 0) e11
    · simpa using f11
    · rw [heap_setCell_other _ _ _ _ (by simp)]; exact HB0.out
    · exact heap_setCell_same w1 _ 11 M 49 _ HB1.out
  case round =>
    obtain ⟨k, ao2, cap2, hk, rfl, g11, gf11, hbel, hsz2, hblk, hview⟩ := hrel
    by_cases hlt : k < n
    · obtain ⟨e, he⟩ : ∃ e, es[k]? = some e := ⟨_, List.getElem?_eq_getElem (by rw [HN.out]; exact hlt)⟩
      rcases hm with hm | ⟨b, off, rfl, hbZ, hc⟩
      · simp [hm] at he
      have hb : b < w.heap.size := Nat.lt_of_lt_of_le hbZ hZ
      obtain ⟨ca, cc, ma, mc, c0, c1, c2, c3, c4, hwi⟩ := hc k _ he
      replace c0 := (hbel.cell (p := ⟨b, _, none⟩) hb).trans c0
      replace c1 := (hbel.cell (p := ⟨b, _, none⟩) hb).trans c1
      replace c2 := (hbel.cell (p := ⟨b, _, none⟩) hb).trans c2
      replace c3 := (hbel.cell (p := ⟨b, _, none⟩) hb).trans c3
      replace c4 := (hbel.cell (p := ⟨b, _, none⟩) hb).trans c4
      have hlt' : (k : Int) < (n : Int) := by omega
      have hcl := hf.cmd k e he
      have hbw : b < wr.heap.size := Nat.lt_of_lt_of_le hb hbel.size
      have hmem := hide (hwi.mem.move (fun b hb => hbel.block b (Nat.lt_of_lt_of_le hb hZ)) (fun _ h => h))
      have hcmd := hide ((hwi.cmd.move (S' := Old w) (fun _ _ => rfl) (fun b hb => Nat.lt_of_lt_of_le hb hZ)).below (hbel.trans ((one_more wr (.cells #[.int .u64 e.index, .int .u64 e.term, .slice ca e.cmd.length cc, .bool e.noop, .slice ma e.mem.length mc] 56)).mono hbel.size)))
      have hmN := hide hwi.memN
      have HE := hide he
      clear he hc hwi
      go_wp2_with fail
      refine (f37_any ca cc e.cmd _ hcmd.out hcl).mono ?_
      rintro e1 w2 ⟨ca2, cc2, rfl, hcN, hcb, hb2⟩
      simp only [World.size_alloc] at hb2 hcb
      obtain ⟨vals, hold, hV⟩ := hview
      have hvl : ((es.take k).map viewEn).length = k := by simp; have := HN.out; omega
      have hold' := hold
      rw [hvl] at hold'
      have hs3 : wr.heap.size + 1 ≤ w2.heap.size := by have := hb2.size; simpa using this
      have x0 := (hb2.cell (p := ⟨wr.heap.size, 0, none⟩) (by simp)).trans (World.cell?_alloc_new _ _ _ _)
      have x1 := (hb2.cell (p := ⟨wr.heap.size, 1, none⟩) (by simp)).trans (World.cell?_alloc_new _ _ _ _)
      have x2 := (hb2.cell (p := ⟨wr.heap.size, 2, none⟩) (by simp)).trans (World.cell?_alloc_new _ _ _ _)
      have x3 := (hb2.cell (p := ⟨wr.heap.size, 3, none⟩) (by simp)).trans (World.cell?_alloc_new _ _ _ _)
      have x4 := (hb2.cell (p := ⟨wr.heap.size, 4, none⟩) (by simp)).trans (World.cell?_alloc_new _ _ _ _)
      have xf := (hb2.frozen (p := ⟨wr.heap.size, 2, none⟩) (by simp)).trans (World.frozen?_alloc_new _ _ _ _)
      have y11 := ((hb2.cell (p := ⟨w.heap.size + 1, 11, none⟩) (by simp; omega)).trans (World.cell?_alloc_lt _ _ _ (by simp; omega))).trans g11
      have l1 : wr.heap.size < w2.heap.size := by omega
      have l2 : w.heap.size + 1 < w2.heap.size := by omega
      have l3 : w.heap.size + 1 < wr.heap.size := by omega
      simp at x0 x1 x2 x3 x4
      have HV := hide hV
      have HO := hide hold
      clear hV hold c0 c1 c2 c3 c4
      go_wp2_with (at_builtin; refine wpList_append_lies _ rfl (.tmp 26) (.tmp 28) 47 rfl (w.heap.size + 2) 56 i0 _ 5 72 Try.underlying47 hi hz0 hz1 hz2 rfl (by decide) (.slice ao2 k cap2) k vals rfl ?q0 ⟨w2.heap.size, 0, none⟩ 1 1 [.int .u64 e.index, .int .u64 e.term, .slice ca2 e.cmd.length cc2, .bool e.noop, .slice ma e.mem.length mc] rfl rfl ?q1 ?q2 (by decide) ?q3 ?q4 ?q5 (w2.heap.size + 1) ?q6 ?_)
      case q0 => exact own_keep hold' (fun g hg => chain1 hb2 (hold'.lt g hg).2)
      case q1 => exact World.news_of_block (B := w2.heap.size) (by have := heap_alloc_new (w2.setCell ⟨wr.heap.size, 2, none⟩ (.slice ca2 e.cmd.length cc2)) (.cells #[.int .u64 e.index, .int .u64 e.term, .slice ca2 e.cmd.length cc2, .bool e.noop, .slice ma e.mem.length mc] 56); rwa [World.size_setCell] at this)
      case q2 => intro u hu; simp at hu; rcases hu with rfl | rfl | rfl | rfl | rfl <;> rfl
      case q3 => unfold maxLen; omega
      case q4 => omega
      case q5 => simp; omega
      case q6 => simp
      intro g3 cap3 w3 hown3 hgrow hat hg3
      have hs4 : w2.heap.size + 1 ≤ w3.heap.size := by have := hgrow.size; simpa using this
      have K1 : ∀ b, b < wr.heap.size → some b ≠ (Value.slice ao2 k cap2).ownBlock → w3.heap[b]? = wr.heap[b]? := fun b hb hne => (hgrow.block b (by simp; omega) hne).trans (chain1 hb2 hb)
      have K2 : ∀ b, wr.heap.size < b → b < w2.heap.size → w3.heap[b]? = w2.heap[b]? := fun b h1 h2 => (hgrow.block b (by simp; omega) (fun hh => by have := (hold'.lt b hh.symm).2; omega)).trans (chain2 h1 h2)
      have hne1 : some (w.heap.size + 1) ≠ (Value.slice ao2 k cap2).ownBlock := fun hh => by have := (hold'.lt _ hh.symm).1; omega
      have hne0 : some w.heap.size ≠ (Value.slice ao2 k cap2).ownBlock := fun hh => by have := (hold'.lt _ hh.symm).1; omega
      have z11 : w3.cell? ⟨w.heap.size + 1, 11, none⟩ = some (.slice ao2 k cap2) := cell_same (K1 _ (by omega) hne1) g11
      have zf11 : w3.frozen? ⟨w.heap.size + 1, 11, none⟩ = false := (World.frozen?_of_block (w := wr) (a := ⟨w.heap.size + 1, 11, none⟩) (K1 _ (by omega) hne1)).trans gf11
      have hB3 : Below w.heap.size w (w3.setCell ⟨w.heap.size + 1, 11, none⟩ (.slice (some ⟨g3, 0, none⟩) (k + 1) cap3)) := by
        have : Below w.heap.size w w3 := hbel.trans ⟨hgrow.os.trans hb2.os, hgrow.tape.trans hb2.tape, hgrow.output.trans hb2.output, by omega, fun b hb => K1 b (by omega) (fun hh => by have := (hold'.lt b hh.symm).1; omega)⟩
        exact this.setCell (p := ⟨w.heap.size + 1, 11, none⟩) (by simp) _
      have hblk3 : Hid ((w3.setCell ⟨w.heap.size + 1, 11, none⟩ (.slice (some ⟨g3, 0, none⟩) (k + 1) cap3)).heap[w.heap.size]? = some (.cells zero49 49 (0, 0)) ∧
          (w3.setCell ⟨w.heap.size + 1, 11, none⟩ (.slice (some ⟨g3, 0, none⟩) (k + 1) cap3)).heap[w.heap.size + 1]? = some (.cells (M.setIfInBounds 11 (.slice (some ⟨g3, 0, none⟩) (k + 1) cap3)) 49 (0, 0)) ∧ (k + 1 = 0 → some (⟨g3, 0, none⟩ : Addr) = none ∧ cap3 = 0)) := by
        obtain ⟨hz, hM2, _⟩ := hblk.out
        refine ⟨?_, ?_, fun h => by omega⟩
        · rw [heap_setCell_other _ _ _ _ (by simp), K1 _ (by omega) hne0]; exact hz
        · have := heap_setCell_same w3 (w.heap.size + 1) 11 _ 49 (.slice (some ⟨g3, 0, none⟩) (k + 1) cap3) ((K1 _ (by omega) hne1).trans hM2)
          rwa [Array.setIfInBounds_setIfInBounds] at this
      have hview3 : Hid (Viewed (w.heap.size + 2) Z (w3.setCell ⟨w.heap.size + 1, 11, none⟩ (.slice (some ⟨g3, 0, none⟩) (k + 1) cap3)) (.slice (some ⟨g3, 0, none⟩) (k + 1) cap3) ((es.take (k + 1)).map viewEn)) := by
        unfold Hid
        rw [take_view HE.out]
        refine view_step (H := wr.heap.size) (wr := wr) (w2 := w2) (v := .slice ao2 k cap2) (g := g3) (e := viewEn e) rfl ?_ ?_ (by omega) (by omega) (ca := ca2) (cc := cc2) (ma := ma) (mc := mc) (vals := vals) ?_ rfl ?_ (by simp; omega) (by omega) HO.out HV.out hcb hcN hmem.out hmN.out ?_
        · intro b hb hne hb1
          rw [heap_setCell_other _ _ _ _ (by simp; omega)]
          exact K1 b hb hne
        · intro b h1 h2
          rw [heap_setCell_other _ _ _ _ (by simp; omega)]
          exact K2 b h1 h2
        · rw [hvl]
          exact ownsRow_setCell_below hown3 (a := ⟨w.heap.size + 1, 11, none⟩) (by simp) _
        · rcases hat with hat | hat
          · exact .inl hat
          · exact .inr (by omega)
        · intro b hb
          rw [heap_setCell_other _ _ _ _ (by simp; omega)]
          exact K1 b (by omega) (fun hh => by have := (hold'.lt b hh.symm).1; omega)
      clear hown3 hgrow K1 K2 hat hold'
      go_wp2_with fail
      go_roundw
      case rel => exact ⟨k + 1, some ⟨g3, 0, none⟩, cap3, by omega, by go_num, by simpa using World.cell?_setCell_same w3 ⟨w.heap.size + 1, 11, none⟩ (.slice (some ⟨g3, 0, none⟩) (k + 1) cap3) z11, by simpa using zf11, hB3, by simp; omega, hblk3, hview3.out⟩
      case measure => simp [intOf]; omega
    · obtain rfl : k = n := by omega
      obtain ⟨hz, hM2, hnil⟩ := hblk.out
      have hMs : (M.setIfInBounds 11 (.slice ao2 k cap2)).size = 20 := by rw [Array.size_setIfInBounds]; exact HM.out
      have HZ := hide hz
      have HM2 := hide hM2
      have HMs := hide hMs
      clear hz hM2 hMs hblk
      have HA : Hid ((M.setIfInBounds 11 (.slice ao2 k cap2)).all (·.oneCell') = true) := all_set HM1.out rfl
      have hv5 := hide hview
      have HE2 : ∃ X, X = M.setIfInBounds 11 (.slice ao2 k cap2) := ⟨_, rfl⟩
      obtain ⟨M2, hM2e⟩ := HE2
      rw [← hM2e] at HM2 HMs HA
      have HE2 := hide hM2e
      clear hM2e hview
      go_wp2_with (first | (refine wpList_load_row rfl 49 (.tmp 3) rfl (w.heap.size + 1) rfl 49 M2 (0, 0) _ ?r1 Try.underlying49 rfl ?r2 ?_) | (refine wpList_store_abs rfl 49 (.tmp 2) (.tmp 32) rfl w.heap.size M2 rfl rfl 49 zero49 ?r3 ?r4 ?r5 ?r6 ?_))
      case r1 => exact HM2.out
      case r2 => rw [HMs.out]; exact size49
      case r3 => exact HZ.out
      case r4 => rw [HMs.out]; exact size49
      case r5 => rw [HMs.out]; rfl
      case r6 => exact HA.out
      intro w5 hb5 hg5
      have hB5 : Below w.heap.size w w5 := hbel.grown hg5 hbel.size (fun b hb => by cases hb; exact Nat.le_refl _)
      have hV5 : ViewEnts w.heap.size Z w5 ao2 (es.map viewEn) := by
        have := viewed_end hv5.out hZ (fun b hb hne => hg5.block b hb (by simpa using hne)) (by omega) hg5.size
        rwa [List.take_of_length_le (by rw [HN.out]; exact Nat.le_refl _)] at this
      have hN5 : ao2.isNone = es.isEmpty := by
        cases hes : es with
        | nil =>
          have : k = 0 := by rw [← HN.out, hes]; rfl
          rw [(hnil this).1]; rfl
        | cons x xs =>
          rw [hes] at hV5
          rcases hV5 with h0 | ⟨g, rfl, _⟩
          · simp at h0
          · rfl
      have HB5 := hide hb5
      have hVN := hide hV5
      have hNN := hide hN5
      clear hb5 hg5 hV5 hN5 hnil
      go_wp2_with fail
      refine bodyPost_ret (v := .agg M2) (results_cell_row Try.results31 _ _ w.heap.size 49 M2 (0, 0) _ rfl HB5.out Try.underlying49 rfl (by rw [HMs.out]; exact size49)) rfl ⟨ao2, cap2, ?_, hNN.out, hVN.out, hB5⟩
      rw [HE2.out, HN.out]
end Go.Proofs.Qxb6614540a.V
