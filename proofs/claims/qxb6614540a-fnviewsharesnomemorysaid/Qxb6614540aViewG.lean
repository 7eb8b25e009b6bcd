/-
  Laws for copyMsg: a store into the middle of a row; rows of entries and of members under construction.
-/
import Derived.Test.Qxb6614540aViewE
import Derived.Great.BuildSlice
namespace Go.Proofs.Qxb6614540a.V
open Go.RowKit

theorem setCells_heap (b : Nat) : ∀ (vs : List Value) (o : Nat) (w : World) (k : Nat), k ≠ b → (w.setCells b o vs).heap[k]? = w.heap[k]?
  | [], _, _, _, _ => rfl
  | v :: r, o, w, k, h => by rw [World.setCells, setCells_heap b r _ _ k h]; exact heap_setCell_other _ _ _ _ h
theorem setCells_size (b : Nat) : ∀ (vs : List Value) (o : Nat) (w : World), (w.setCells b o vs).heap.size = w.heap.size
  | [], _, _ => rfl
  | v :: r, o, w => by rw [World.setCells, setCells_size b r]; simp
theorem setCells_same (b : Nat) : ∀ (vs : List Value) (o : Nat) (w : World), (w.setCells b o vs).os = w.os ∧ (w.setCells b o vs).tape = w.tape ∧ (w.setCells b o vs).output = w.output
  | [], _, _ => ⟨rfl, rfl, rfl⟩
  | v :: r, o, w => by rw [World.setCells]; exact setCells_same b r _ _

/-- The cells cs have been put into block b from offset o on; nothing else has turned. -/
structure Put (w w' : World) (b o : Nat) (cs : List Value) : Prop where
  grown : w.grownBy w' (some b)
  size : w'.heap.size = w.heap.size
  range : w'.rangeAt b o cs
  out : ∀ i v, (i < o ∨ o + cs.length ≤ i) → w.cell? ⟨b, i, none⟩ = some v → w'.cell? ⟨b, i, none⟩ = some v
  there : ∀ o' n, w.there b o' n → w'.there b o' n

theorem put_setCells {w : World} {b o : Nat} {cs : List Value} (ht : w.there b o cs.length) : Put w (w.setCells b o cs) b o cs :=
  ⟨⟨(setCells_same b cs o w).1, (setCells_same b cs o w).2.1, (setCells_same b cs o w).2.2, by rw [setCells_size]; exact Nat.le_refl _, fun k _ hk => setCells_heap b cs o w k (fun e => hk (by rw [e]))⟩, setCells_size b cs o w,
    World.rangeAt_setCells_same w b o cs ht, fun i v hi hc => by rw [World.cell?_setCells_out b cs o w ⟨b, i, none⟩ (fun _ _ => hi)]; exact hc, fun o' n h => World.there_setCells h b o cs⟩

/-- A store of a struct into the middle of a row: the world behind it a letter. -/
theorem wpList_store_put {P : Program} {w : World} {ops : Array Oper} {rest : List Oper} {o : Oper} {a : Act} {Q : Exit → Act → World → Prop} (hgd : o.guard = none) (ty : TypeId) (x y : Operand) (ho : o.op = .store ty x y)
    (b off : Nat) (cells : Array Value) (hx : a.eval x = .pointer (some ⟨b, off, none⟩)) (hy : a.eval y = .agg cells)
    (ht : w.there b off cells.size) (hi : (P.info? ty).map (·.size) = some cells.size) (h1 : cells.all (·.oneCell') = true)
    (h : ∀ w', Put w w' b off cells.toList → wpList P ops Q rest (a.put o.dst undef) w') : wpList P ops Q (o :: rest) a w :=
  wpList_store_mid hgd ty x y ho b off cells hx hy ht hi h1 (h _ (put_setCells (by simpa using ht)))

/-- The blocks from O on that are there, but for g. -/
structure Ben (O : Nat) (w : World) (g b : Nat) : Prop where
  ge : O ≤ b
  lt : b < w.heap.size
  ne : b ≠ g

theorem there_keep {w w' : World} {b o n : Nat} (h : w.there b o n) (hb : w'.heap[b]? = w.heap[b]?) : w'.there b o n := fun j hj => by
  obtain ⟨h1, h2⟩ := h j hj
  rw [World.cell?_of_block (w := w) (a := ⟨b, o + j, none⟩) hb, World.frozen?_of_block (w := w) (a := ⟨b, o + j, none⟩) hb]
  exact ⟨h1, h2⟩

theorem there_sub {w : World} {b n o m : Nat} (h : w.there b 0 n) (hm : o + m ≤ n) : w.there b o m := fun j hj => by
  have := h (o + j) (by omega)
  rwa [Nat.zero_add] at this

theorem there_own {w : World} {base e size g n cap : Nat} {xs : List Value} (h : w.ownsRow base e size (.slice (some ⟨g, 0, none⟩) n cap) n xs) : w.there g 0 (n * size) := fun j hj => by
  rw [Nat.zero_add, h.cellAt j hj]
  have hl : j < xs.length := by rw [h.1]; exact hj
  exact ⟨by rw [List.getElem?_eq_getElem hl]; rfl, h.frozenAt j⟩

/-- The members ms, as far as j, lie in block gm. -/
structure Mems (w3 wr : World) (gm L j : Nat) (ms : List Mb) : Prop where
  grown : w3.grownBy wr (some gm)
  lt : gm < w3.heap.size
  there : wr.there gm 0 (L * 6)
  mem : ∀ (i : Nat) (m : Mb), i < j → ms[i]? = some m → MemAt wr (Ben w3.heap.size wr gm) gm (i * 6) m

theorem Mems.start {w3 : World} {gm L : Nat} {ms : List Mb} (hlt : gm < w3.heap.size) (ht : w3.there gm 0 (L * 6)) : Mems w3 w3 gm L 0 ms :=
  ⟨World.grownBy.refl _ _, hlt, ht, fun i m hi => by omega⟩

theorem Mems.step {w3 wr X w' : World} {gm L j : Nat} {ms : List Mb} {m : Mb} {p : Option Addr} (h : Mems w3 wr gm L j ms) (hm : ms[j]? = some m) (hX : Below wr.heap.size wr X)
    (hput : Put X w' gm (j * 6) [.int .u64 m.id, .string m.addr, .bool m.voting, .int .u8 m.part, .pointer p, .int .u64 m.cfg]) (hmt : MatchAt X (fun b => wr.heap.size ≤ b ∧ b < X.heap.size) p m.mt) : Mems w3 w' gm L (j + 1) ms := by
  have hgm : gm < wr.heap.size := Nat.lt_of_lt_of_le h.lt h.grown.size
  have keep : ∀ b, b < X.heap.size → b ≠ gm → w'.heap[b]? = X.heap[b]? := fun b hb hne => hput.grown.block b hb (by simpa using hne)
  have hsz : X.heap.size ≤ w'.heap.size := by rw [hput.size]; exact Nat.le_refl _
  have hXs := hX.size
  refine ⟨⟨hput.grown.os.trans (hX.os.trans h.grown.os), hput.grown.tape.trans (hX.tape.trans h.grown.tape), hput.grown.output.trans (hX.output.trans h.grown.output), ?_, fun b hb hne => ?_⟩, h.lt, ?_, fun i m' hi hm' => ?_⟩
  · exact Nat.le_trans h.grown.size (Nat.le_trans hXs hsz)
  · have hb' : b < wr.heap.size := Nat.lt_of_lt_of_le hb h.grown.size
    rw [keep b (by omega) (by simpa using hne), hX.block b hb']
    exact h.grown.block b hb hne
  · exact hput.there _ _ (there_keep h.there (hX.block gm hgm))
  · by_cases hij : i = j
    · subst hij
      rw [hm] at hm'
      cases hm'
      have at_ : ∀ k v, [Value.int .u64 m.id, .string m.addr, .bool m.voting, .int .u8 m.part, .pointer p, .int .u64 m.cfg][k]? = some v → w'.cell? ⟨gm, i * 6 + k, none⟩ = some v := fun k v hv => hput.range k v hv
      refine ⟨p, at_ 0 _ rfl, at_ 1 _ rfl, at_ 2 _ rfl, at_ 3 _ rfl, at_ 4 _ rfl, at_ 5 _ rfl, ?_⟩
      exact hmt.move (fun b hb => keep b hb.2 (by omega)) (fun b hb => ⟨by have := h.grown.size; omega, by omega, by omega⟩)
    · have := h.mem i m' (by omega) hm'
      refine this.move' (fun k v hk hv => ?_) (fun b hb => ?_) (fun b hb => ⟨hb.ge, by have := hb.lt; omega, hb.ne⟩)
      · refine hput.out _ _ (by simp; omega) ?_
        exact cell_same (hX.block gm hgm) hv
      · rw [keep b (by have := hb.lt; omega) hb.ne]
        exact hX.block b hb.lt

theorem Mems.done {w3 wr X : World} {gm L O : Nat} {ms : List Mb} (h : Mems w3 wr gm L ms.length ms) (hO : O ≤ w3.heap.size) (hOg : O ≤ gm) (hk : ∀ b, b < wr.heap.size → (w3.heap.size ≤ b ∨ b = gm) → X.heap[b]? = wr.heap[b]?) (hs : wr.heap.size ≤ X.heap.size) :
    MemsAt X (fun b => O ≤ b ∧ b < X.heap.size) (some ⟨gm, 0, none⟩) ms := by
  have hgm : gm < wr.heap.size := Nat.lt_of_lt_of_le h.lt h.grown.size
  refine .inr ⟨gm, 0, rfl, ⟨hOg, by omega⟩, fun k m hm => ?_⟩
  rw [Nat.zero_add]
  exact (h.mem k m (List.getElem?_eq_some_iff.1 hm).1 hm).move (hk gm hgm (.inr rfl)) (fun b hb => hk b hb.lt (.inl hb.ge)) (fun b hb => ⟨Nat.le_trans hO hb.ge, Nat.lt_of_lt_of_le hb.lt hs⟩)

/-- The entries es, as far as k, lie in block g; all that was there below O is as it was. -/
structure Ents (w wr : World) (g n k : Nat) (es : List En) : Prop where
  below : Below w.heap.size w wr
  ge : w.heap.size + 3 ≤ g
  lt : g < wr.heap.size
  there : wr.there g 0 (n * 5)
  ent : ∀ (i : Nat) (e : En), i < k → es[i]? = some e → EntryAt wr (Ben (w.heap.size + 3) wr g) (Ben (w.heap.size + 3) wr g) g (i * 5) e

theorem Ents.step {w wr X w' : World} {g n k : Nat} {es : List En} {e : En} {ca : Option Addr} {cc : Nat} {ma : Option Addr} {mc : Nat} (h : Ents w wr g n k es) (he : es[k]? = some e) (hX : Below wr.heap.size wr X)
    (hput : Put X w' g (k * 5) [.int .u64 e.index, .int .u64 e.term, .slice ca e.cmd.length cc, .bool e.noop, .slice ma e.mem.length mc]) (hw : Within X (fun b => wr.heap.size ≤ b ∧ b < X.heap.size) (fun b => wr.heap.size ≤ b ∧ b < X.heap.size) ca ma e) : Ents w w' g n (k + 1) es := by
  have keep : ∀ b, b < X.heap.size → b ≠ g → w'.heap[b]? = X.heap[b]? := fun b hb hne => hput.grown.block b hb (by simpa using hne)
  have hsz : X.heap.size ≤ w'.heap.size := by rw [hput.size]; exact Nat.le_refl _
  have hXs := hX.size
  have hg := h.lt
  have hge := h.ge
  refine ⟨⟨hput.grown.os.trans (hX.os.trans h.below.os), hput.grown.tape.trans (hX.tape.trans h.below.tape), hput.grown.output.trans (hX.output.trans h.below.output), ?_, fun b hb => ?_⟩, h.ge, by omega, ?_, fun i e' hi he' => ?_⟩
  · exact Nat.le_trans h.below.size (Nat.le_trans hXs hsz)
  · have := h.below.size
    rw [keep b (by omega) (by omega), hX.block b (by omega)]
    exact h.below.block b hb
  · exact hput.there _ _ (there_keep h.there (hX.block g hg))
  · by_cases hij : i = k
    · subst hij
      rw [he] at he'
      cases he'
      have at_ : ∀ j v, [Value.int .u64 e.index, .int .u64 e.term, .slice ca e.cmd.length cc, .bool e.noop, .slice ma e.mem.length mc][j]? = some v → w'.cell? ⟨g, i * 5 + j, none⟩ = some v := fun j v hv => hput.range j v hv
      refine ⟨ca, cc, ma, mc, at_ 0 _ rfl, at_ 1 _ rfl, at_ 2 _ rfl, at_ 3 _ rfl, at_ 4 _ rfl, ?_⟩
      exact hw.move (fun b hb => keep b hb.2 (by omega)) (fun b hb => ⟨by omega, by omega, by omega⟩) (fun b hb => keep b hb.2 (by omega)) (fun b hb => ⟨by omega, by omega, by omega⟩)
    · have hold : ∀ b, Ben (w.heap.size + 3) wr g b → w'.heap[b]? = wr.heap[b]? := fun b hb => by
        rw [keep b (by have := hb.lt; omega) hb.ne]
        exact hX.block b hb.lt
      have hup : ∀ b, Ben (w.heap.size + 3) wr g b → Ben (w.heap.size + 3) w' g b := fun b hb => ⟨hb.ge, by have := hb.lt; omega, hb.ne⟩
      refine (h.ent i e' (by omega) he').move' (fun j v hj hv => ?_) hold hup hold hup
      refine hput.out _ _ (by simp; omega) ?_
      exact cell_same (hX.block g hg) hv

theorem Ents.done {w wr w5 : World} {g n : Nat} {es : List En} (h : Ents w wr g n es.length es) (hk : ∀ b, w.heap.size + 3 ≤ b → b < wr.heap.size → w5.heap[b]? = wr.heap[b]?) (hs : wr.heap.size ≤ w5.heap.size) : EntsAt w5 (Old w5) (Old w5) (some ⟨g, 0, none⟩) es := by
  refine .inr ⟨g, 0, rfl, Nat.lt_of_lt_of_le h.lt hs, fun k e he => ?_⟩
  rw [Nat.zero_add]
  exact (h.ent k e (List.getElem?_eq_some_iff.1 he).1 he).move (hk g h.ge h.lt) (fun b hb => hk b hb.ge hb.lt) (fun b hb => Nat.lt_of_lt_of_le hb.lt hs) (fun b hb => hk b hb.ge hb.lt) (fun b hb => Nat.lt_of_lt_of_le hb.lt hs)
end Go.Proofs.Qxb6614540a.V
