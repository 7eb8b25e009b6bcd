/-
  The raft that a law builds: ZZnewRaft, ZZaddLeaving.
-/
import Derived.Test.Qxb6614540aTellA
import Derived.Deep.AppendLies
import Derived.Deep.RegionHeld3
import Derived.Great.BuildSlice
namespace Go.Proofs.Qxb6614540a
open Go.RowKit

/-- What the law looks into of a fresh raft's cells. -/
structure FreshRaft (role commit : Int) (cs : Array Value) : Prop where
  c8 : cs[8]? = some (.slice none 0 0)
  c42 : cs[42]? = some (.int .u64 commit)
  c46 : cs[46]? = some (.int .u8 role)

theorem built124 (role commit : Int) : ∃ cs, Try.prog.built 124 [(29, .int .u8 role), (25, .int .u64 commit)] = some cs ∧ FreshRaft role commit cs :=
  ⟨(Try.prog.built 124 [(29, .int .u8 role), (25, .int .u64 commit)]).getD #[], by kernel_rfl, by kernel_rfl, by kernel_rfl, by kernel_rfl⟩

set_option maxRecDepth 100000 in
set_option maxHeartbeats 400000 in
theorem f34_any (role commit : Int) (w : World) :
    Calls Try.prog 34 #[.int .u8 role, .int .u64 commit] w fun e w' => e = .returned (.pointer (some ⟨w.heap.size, 0, none⟩)) ∧ ∃ cs, FreshRaft role commit cs ∧ w' = w.alloc (.cells cs 124) := by
  obtain ⟨cs, hb0, hf⟩ := built124 role commit
  have HB := hide hb0
  clear hb0
  go_enter Try.func34, Try.ntmps34
  go_wp2_with (refine wpList_buildTo rfl 124 _ rfl (some 7) rfl cs ?hb ?_)
  case hb => exact unhide HB
  go_ret
  exact ⟨rfl, cs, hf, rfl⟩

/-- The cells of a list of removals, in one row. -/
def flat (xs : List Rm) : List Value := xs.flatMap fun m => [.int .u64 m.id, .string m.addr, .int .u64 m.idx]

/-- Block p holds a raft with that role and commit, whose list 'leaving' holds the removals xs in a row of its own behind p. -/
structure Raft (w : World) (p : Nat) (role commit : Int) (xs : List Rm) : Prop where
  lt : p < w.heap.size
  c42 : w.cell? ⟨p, 42, none⟩ = some (.int .u64 commit)
  c46 : w.cell? ⟨p, 46, none⟩ = some (.int .u8 role)
  fz : w.frozen? ⟨p, 8, none⟩ = false
  own : ∃ ao cap, w.cell? ⟨p, 8, none⟩ = some (.slice ao xs.length cap) ∧ w.ownsRow (p + 1) 126 3 (.slice ao xs.length cap) xs.length (flat xs)

theorem Try.info126 : (Try.prog.info? 126).map (fun i => (i.zero, i.size, i.bytes)) = some (some (.agg #[.int .u64 0, .string ByteArray.empty, .int .u64 0]), 3, 32) := by kernel_rfl

theorem flat_snoc (xs : List Rm) (m : Rm) : flat (xs ++ [m]) = flat xs ++ [.int .u64 m.id, .string m.addr, .int .u64 m.idx] := by simp [flat]

/-- Of a raft's block nothing turns where a row behind it grows. -/
theorem grow_at {w w1 : World} {p e size : Nat} {v : Value} {n : Nat} {xs : List Value} {o : Obj} (hlt : p < w.heap.size) (hown : w.ownsRow (p + 1) e size v n xs) (hg : (w.alloc o).grownBy w1 v.ownBlock) (off : Nat) :
    w1.cell? ⟨p, off, none⟩ = w.cell? ⟨p, off, none⟩ ∧ w1.frozen? ⟨p, off, none⟩ = w.frozen? ⟨p, off, none⟩ := by
  have hne : some p ≠ v.ownBlock := fun h => by have := (hown.lt p h.symm).1; omega
  have hb : w1.heap[p]? = w.heap[p]? := (hg.block p (by simp; omega) hne).trans (Below.heap_alloc _ _ _ hlt)
  exact ⟨World.cell?_of_block (w := w) (a := ⟨p, off, none⟩) hb, World.frozen?_of_block (w := w) (a := ⟨p, off, none⟩) hb⟩

theorem add_raft {w w1 : World} {p : Nat} {role commit : Int} {xs : List Rm} {m : Rm} {ao : Option Addr} {cap g cap' : Nat} {o : Obj} (hlt : p < w.heap.size)
    (h42 : w.cell? ⟨p, 42, none⟩ = some (.int .u64 commit)) (h46 : w.cell? ⟨p, 46, none⟩ = some (.int .u8 role)) (hfz : w.frozen? ⟨p, 8, none⟩ = false) (h8 : w.cell? ⟨p, 8, none⟩ = some (.slice ao xs.length cap))
    (hown : w.ownsRow (p + 1) 126 3 (.slice ao xs.length cap) xs.length (flat xs)) (hg : (w.alloc o).grownBy w1 (Value.slice ao xs.length cap).ownBlock)
    (hown1 : w1.ownsRow (p + 1) 126 3 (.slice (some ⟨g, 0, none⟩) (xs.length + 1) cap') (xs.length + 1) (flat xs ++ [.int .u64 m.id, .string m.addr, .int .u64 m.idx])) :
    Raft (w1.setCell ⟨p, 8, none⟩ (.slice (some ⟨g, 0, none⟩) (xs.length + 1) cap')) p role commit (xs ++ [m]) ∧ Below p w (w1.setCell ⟨p, 8, none⟩ (.slice (some ⟨g, 0, none⟩) (xs.length + 1) cap')) := by
  have hsz : w.heap.size + 1 ≤ w1.heap.size := by have := hg.size; simpa using this
  have c42 := (grow_at hlt hown hg 42).1.trans h42
  have c46 := (grow_at hlt hown hg 46).1.trans h46
  have c8 := (grow_at hlt hown hg 8).1.trans h8
  have f8 := (grow_at hlt hown hg 8).2.trans hfz
  refine ⟨⟨?_, ?_, ?_, ?_, some ⟨g, 0, none⟩, cap', ?_, ?_⟩, ?_⟩
  · simp; omega
  · rw [← c42]; exact World.cell?_setCell_other _ _ _ _ (by simp)
  · rw [← c46]; exact World.cell?_setCell_other _ _ _ _ (by simp)
  · rw [← f8]; simp
  · simpa using World.cell?_setCell_same w1 ⟨p, 8, none⟩ (.slice (some ⟨g, 0, none⟩) (xs.length + 1) cap') c8
  · rw [flat_snoc]
    simpa using ownsRow_setCell_below hown1 (a := ⟨p, 8, none⟩) (by simp) _
  · have hb : Below p w w1 := ((Below.refl p w).alloc (by omega) o).grown hg (by simp; omega) (fun k hk => by have := (hown.lt k hk).1; omega)
    exact hb.setCell (p := ⟨p, 8, none⟩) (Nat.le_refl _) _

set_option maxRecDepth 100000 in
set_option maxHeartbeats 400000 in
theorem f35_any (p : Nat) (role commit : Int) (xs : List Rm) (m : Rm) (w : World) (hs : xs.length ≤ 65536) (h : Raft w p role commit xs) :
    Calls Try.prog 35 #[.pointer (some ⟨p, 0, none⟩), .int .u64 m.id, .string m.addr, .int .u64 m.idx] w fun e w' => e = .returned (.tuple #[]) ∧ Raft w' p role commit (xs ++ [m]) ∧ Below p w w' := by
  obtain ⟨hlt, h42, h46, hfz, ao, cap, h8, hown⟩ := h
  obtain ⟨i0, hi, hz0, hz1, hz2⟩ := info_parts Try.info126
  go_enter Try.func35, Try.ntmps35
  go_wp2_with (at_builtin; refine wpList_append_lies _ rfl (.tmp 12) (.tmp 18) 99 rfl (p + 1) 126 i0 _ 3 32 Try.underlying99 hi hz0 hz1 hz2 rfl (by decide) (.slice ao xs.length cap) xs.length (flat xs) rfl (hown.alloc _) ⟨w.heap.size, 0, none⟩ 1 1 [.int .u64 m.id, .string m.addr, .int .u64 m.idx] rfl rfl ?c1 ?c2 (by decide) ?c3 ?c4 ?c5 _ rfl ?_)
  case c1 => exact World.news_of_block (heap_alloc_new w _)
  case c2 => intro u hu; simp at hu; rcases hu with rfl | rfl | rfl <;> rfl
  case c3 => unfold maxLen; omega
  case c4 => omega
  case c5 => simp; omega
  intro g cap' w1 hown1 hgrow _ _
  have R := add_raft (m := m) hlt h42 h46 hfz h8 hown hgrow hown1
  have c8 := (grow_at hlt hown hgrow 8).1.trans h8
  have f8 := (grow_at hlt hown hgrow 8).2.trans hfz
  clear hown1 hgrow hown h42 h46 hfz h8
  go_wp2
  go_end0
  exact ⟨rfl, R⟩
end Go.Proofs.Qxb6614540a
