/-
  What the laws on view are told of a message's memory. 'S': the blocks through which a reading may go.
-/
import Derived.Test.Qxb6614540aRows
import Derived.WalkKit
import Derived.WalkSpells
import Derived.WalkLawsBesides
import Derived.Deep.AppendLies
import Derived.Deep.QuietTactic
import Derived.BigQuiet
namespace Go.Proofs.Qxb6614540a.V
open Go.RowKit

theorem hide {p : Prop} (h : p) : Hid p := h

/-- One member of a configuration. -/
structure Mb where
  id : Int
  addr : ByteArray
  voting : Bool
  part : Int
  mt : Option Int
  cfg : Int

/-- One log entry; 'cmdN', 'memN': its command, its member list is nil. -/
structure En where
  index : Int
  term : Int
  cmdN : Bool
  cmd : List Int
  noop : Bool
  memN : Bool
  mem : List Mb

/-- A []byte. -/
def BytesAt (w : World) (S : Nat → Prop) (ao : Option Addr) (bs : List Int) : Prop :=
  bs = [] ∨ ∃ b off, ao = some ⟨b, off, none⟩ ∧ S b ∧ ∀ k x, bs[k]? = some x → w.cell? ⟨b, off + k, none⟩ = some (.int .u8 x)

/-- A *uint64. -/
def MatchAt (w : World) (S : Nat → Prop) (p : Option Addr) (mt : Option Int) : Prop :=
  (p = none ∧ mt = none) ∨ ∃ b off x, p = some ⟨b, off, none⟩ ∧ mt = some x ∧ S b ∧ w.cell? ⟨b, off, none⟩ = some (.int .u64 x)

/-- A member's six cells at b, o. -/
def MemAt (w : World) (S : Nat → Prop) (b o : Nat) (m : Mb) : Prop :=
  ∃ p, w.cell? ⟨b, o, none⟩ = some (.int .u64 m.id) ∧ w.cell? ⟨b, o + 1, none⟩ = some (.string m.addr) ∧ w.cell? ⟨b, o + 2, none⟩ = some (.bool m.voting) ∧
    w.cell? ⟨b, o + 3, none⟩ = some (.int .u8 m.part) ∧ w.cell? ⟨b, o + 4, none⟩ = some (.pointer p) ∧ w.cell? ⟨b, o + 5, none⟩ = some (.int .u64 m.cfg) ∧ MatchAt w S p m.mt

def MemsAt (w : World) (S : Nat → Prop) (ao : Option Addr) (ms : List Mb) : Prop :=
  ms = [] ∨ ∃ b off, ao = some ⟨b, off, none⟩ ∧ S b ∧ ∀ k m, ms[k]? = some m → MemAt w S b (off + k * 6) m

/-- What stands behind an entry's two slices. 'C': the blocks of commands, 'S': those of members. -/
structure Within (w : World) (C S : Nat → Prop) (ca ma : Option Addr) (e : En) : Prop where
  cmd : BytesAt w C ca e.cmd
  cmdN : ca.isNone = e.cmdN
  mem : MemsAt w S ma e.mem
  memN : ma.isNone = e.memN

/-- An entry's five cells at b, o. -/
def EntryAt (w : World) (C S : Nat → Prop) (b o : Nat) (e : En) : Prop :=
  ∃ ca cc ma mc, w.cell? ⟨b, o, none⟩ = some (.int .u64 e.index) ∧ w.cell? ⟨b, o + 1, none⟩ = some (.int .u64 e.term) ∧ w.cell? ⟨b, o + 2, none⟩ = some (.slice ca e.cmd.length cc) ∧
    w.cell? ⟨b, o + 3, none⟩ = some (.bool e.noop) ∧ w.cell? ⟨b, o + 4, none⟩ = some (.slice ma e.mem.length mc) ∧ Within w C S ca ma e

def EntsAt (w : World) (C S : Nat → Prop) (ao : Option Addr) (es : List En) : Prop :=
  es = [] ∨ ∃ b off, ao = some ⟨b, off, none⟩ ∧ S b ∧ ∀ k e, es[k]? = some e → EntryAt w C S b (off + k * 5) e

/-! ### From one world to another -/
section
variable {w w' : World} {C C' S S' : Nat → Prop}

theorem cell_same {b off : Nat} {v : Value} (h : w'.heap[b]? = w.heap[b]?) (hc : w.cell? ⟨b, off, none⟩ = some v) : w'.cell? ⟨b, off, none⟩ = some v :=
  (World.cell?_of_block (w := w) (a := ⟨b, off, none⟩) h).trans hc

theorem BytesAt.move {ao : Option Addr} {bs : List Int} (h : BytesAt w S ao bs) (hk : ∀ b, S b → w'.heap[b]? = w.heap[b]?) (hS : ∀ b, S b → S' b) : BytesAt w' S' ao bs := by
  rcases h with h | ⟨b, off, ha, hs, hc⟩
  · exact .inl h
  · exact .inr ⟨b, off, ha, hS b hs, fun k x hx => cell_same (hk b hs) (hc k x hx)⟩

theorem MatchAt.move {p : Option Addr} {mt : Option Int} (h : MatchAt w S p mt) (hk : ∀ b, S b → w'.heap[b]? = w.heap[b]?) (hS : ∀ b, S b → S' b) : MatchAt w' S' p mt := by
  rcases h with h | ⟨b, off, x, hp, hm, hs, hc⟩
  · exact .inl h
  · exact .inr ⟨b, off, x, hp, hm, hS b hs, cell_same (hk b hs) hc⟩

/-- The member's own cells are told apart from what stands behind its pointer. -/
theorem MemAt.move' {b o : Nat} {m : Mb} (h : MemAt w S b o m) (hb : ∀ j v, j < 6 → w.cell? ⟨b, o + j, none⟩ = some v → w'.cell? ⟨b, o + j, none⟩ = some v) (hk : ∀ b, S b → w'.heap[b]? = w.heap[b]?) (hS : ∀ b, S b → S' b) : MemAt w' S' b o m := by
  obtain ⟨p, c0, c1, c2, c3, c4, c5, hm⟩ := h
  exact ⟨p, hb 0 _ (by omega) c0, hb 1 _ (by omega) c1, hb 2 _ (by omega) c2, hb 3 _ (by omega) c3, hb 4 _ (by omega) c4, hb 5 _ (by omega) c5, hm.move hk hS⟩

theorem MemAt.move {b o : Nat} {m : Mb} (h : MemAt w S b o m) (hb : w'.heap[b]? = w.heap[b]?) (hk : ∀ b, S b → w'.heap[b]? = w.heap[b]?) (hS : ∀ b, S b → S' b) : MemAt w' S' b o m :=
  h.move' (fun _ _ _ hc => cell_same hb hc) hk hS

theorem MemsAt.move {ao : Option Addr} {ms : List Mb} (h : MemsAt w S ao ms) (hk : ∀ b, S b → w'.heap[b]? = w.heap[b]?) (hS : ∀ b, S b → S' b) : MemsAt w' S' ao ms := by
  rcases h with h | ⟨b, off, ha, hs, hc⟩
  · exact .inl h
  · exact .inr ⟨b, off, ha, hS b hs, fun k m hm => (hc k m hm).move (hk b hs) hk hS⟩

theorem Within.move {ca ma : Option Addr} {e : En} (h : Within w C S ca ma e) (hkc : ∀ b, C b → w'.heap[b]? = w.heap[b]?) (hC : ∀ b, C b → C' b) (hk : ∀ b, S b → w'.heap[b]? = w.heap[b]?) (hS : ∀ b, S b → S' b) : Within w' C' S' ca ma e :=
  ⟨h.cmd.move hkc hC, h.cmdN, h.mem.move hk hS, h.memN⟩

theorem EntryAt.move' {b o : Nat} {e : En} (h : EntryAt w C S b o e) (hb : ∀ j v, j < 5 → w.cell? ⟨b, o + j, none⟩ = some v → w'.cell? ⟨b, o + j, none⟩ = some v) (hkc : ∀ b, C b → w'.heap[b]? = w.heap[b]?) (hC : ∀ b, C b → C' b)
    (hk : ∀ b, S b → w'.heap[b]? = w.heap[b]?) (hS : ∀ b, S b → S' b) : EntryAt w' C' S' b o e := by
  obtain ⟨ca, cc, ma, mc, c0, c1, c2, c3, c4, hw⟩ := h
  exact ⟨ca, cc, ma, mc, hb 0 _ (by omega) c0, hb 1 _ (by omega) c1, hb 2 _ (by omega) c2, hb 3 _ (by omega) c3, hb 4 _ (by omega) c4, hw.move hkc hC hk hS⟩

theorem EntryAt.move {b o : Nat} {e : En} (h : EntryAt w C S b o e) (hb : w'.heap[b]? = w.heap[b]?) (hkc : ∀ b, C b → w'.heap[b]? = w.heap[b]?) (hC : ∀ b, C b → C' b)
    (hk : ∀ b, S b → w'.heap[b]? = w.heap[b]?) (hS : ∀ b, S b → S' b) : EntryAt w' C' S' b o e :=
  h.move' (fun _ _ _ hc => cell_same hb hc) hkc hC hk hS

theorem EntsAt.move {ao : Option Addr} {es : List En} (h : EntsAt w C S ao es) (hkc : ∀ b, C b → w'.heap[b]? = w.heap[b]?) (hC : ∀ b, C b → C' b) (hk : ∀ b, S b → w'.heap[b]? = w.heap[b]?) (hS : ∀ b, S b → S' b) : EntsAt w' C' S' ao es := by
  rcases h with h | ⟨b, off, ha, hs, hc⟩
  · exact .inl h
  · exact .inr ⟨b, off, ha, hS b hs, fun k e he => (hc k e he).move (hk b hs) hkc hC hk hS⟩
end

/-- Every block that is there. -/
def Old (w : World) (b : Nat) : Prop := b < w.heap.size

theorem old_keep {w w' : World} (h : Below w.heap.size w w') : ∀ b, Old w b → w'.heap[b]? = w.heap[b]? := fun b hb => h.block b hb
theorem old_old {w w' : World} (h : Below w.heap.size w w') : ∀ b, Old w b → Old w' b := fun _ hb => Nat.lt_of_lt_of_le hb h.size

theorem BytesAt.below {w w' : World} {ao : Option Addr} {bs : List Int} (h : BytesAt w (Old w) ao bs) (hb : Below w.heap.size w w') : BytesAt w' (Old w') ao bs := h.move (old_keep hb) (old_old hb)
theorem MemsAt.below {w w' : World} {ao : Option Addr} {ms : List Mb} (h : MemsAt w (Old w) ao ms) (hb : Below w.heap.size w w') : MemsAt w' (Old w') ao ms := h.move (old_keep hb) (old_old hb)
theorem EntsAt.below {w w' : World} {ao : Option Addr} {es : List En} (h : EntsAt w (Old w) (Old w) ao es) (hb : Below w.heap.size w w') : EntsAt w' (Old w') (Old w') ao es := h.move (old_keep hb) (old_old hb) (old_keep hb) (old_old hb)
end Go.Proofs.Qxb6614540a.V
