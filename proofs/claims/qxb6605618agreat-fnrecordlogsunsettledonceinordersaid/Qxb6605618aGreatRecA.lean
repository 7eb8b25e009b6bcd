/-
  The server and the recorders that the laws make; ZZnewServer, ZZnewRecorder, ZZsettled, ZZansweredLen.
-/
import Derived.Test.Qxb6605618aGreatRows
import Derived.Test.Qxb6605618aGreatLocks
import Derived.WalkKit
import Derived.WalkSpells
import Derived.WalkLawsBesides
import Derived.Deep.AppendLies
import Derived.Deep.RegionHeld3
import Derived.Deep.QuietTactic
import Derived.BigQuiet
import Derived.Great.BuildSlice
import Derived.Conc.MuLone
namespace Go.Proofs.Qxb6605618aGreat
open Go.RowKit

theorem hide {p : Prop} (h : p) : Hid p := h

/-- A request as the server records it. -/
structure An where
  method : ByteArray
  path : ByteArray
  query : ByteArray
  ctype : ByteArray
  code : Int

/-- The cells of a fresh server. -/
def srvCells : Array Value :=
  #[.slice none 0 0, .pointer none, .nilIface, .bool false, .nilFunc, .int .u64 0, .int .u32 0, .int .i32 0, .int .u32 0, .pointer none, .string ⟨#[]⟩, .slice none 0 0, .pointer none, .bool false, .slice none 0 0, .map none,
    .slice none 0 0, .int .i64 0, .int .i64 0, .bool false, .bool false, .pointer none]

/-- The cells of a recorder. -/
def recCells (s : Nat) (a : An) (settled : Bool) : Array Value :=
  #[.nilIface, .pointer (some ⟨s, 0, none⟩), .string a.method, .string a.path, .string a.query, .string a.ctype, .int .i64 a.code, .bool settled]

set_option maxRecDepth 100000 in
set_option maxHeartbeats 400000 in
theorem f6_any (w : World) : Calls Tryz.prog 6 #[] w fun e w' => e = .returned (.pointer (some ⟨w.heap.size, 0, none⟩)) ∧ w' = w.alloc (.cells srvCells 66) := by
  go_enter Tryz.func6, Tryz.ntmps6
  go_wp2
  go_ret
  exact ⟨rfl, rfl⟩

set_option maxRecDepth 100000 in
set_option maxHeartbeats 400000 in
theorem f7_any (s : Nat) (a : An) (settled : Bool) (w : World) :
    Calls Tryz.prog 7 #[.pointer (some ⟨s, 0, none⟩), .string a.method, .string a.path, .string a.query, .string a.ctype, .int .i64 a.code, .bool settled] w fun e w' =>
      e = .returned (.pointer (some ⟨w.heap.size, 0, none⟩)) ∧ w' = w.alloc (.cells (recCells s a settled) 72) := by
  go_enter Tryz.func7, Tryz.ntmps7
  go_wp2
  go_ret
  exact ⟨rfl, rfl⟩

/-- The cells of a log, in one row. -/
def flatA (l : List An) : List Value := l.flatMap fun a => [.string a.method, .string a.path, .string a.query, .string a.ctype, .int .i64 a.code]
theorem flatA_snoc (l : List An) (a : An) : flatA (l ++ [a]) = flatA l ++ [.string a.method, .string a.path, .string a.query, .string a.ctype, .int .i64 a.code] := by simp [flatA]
theorem flatA_at (l : List An) (k : Nat) (a : An) (h : l[k]? = some a) :
    (flatA l)[k * 5]? = some (.string a.method) ∧ (flatA l)[k * 5 + 1]? = some (.string a.path) ∧ (flatA l)[k * 5 + 2]? = some (.string a.query) ∧ (flatA l)[k * 5 + 3]? = some (.string a.ctype) ∧ (flatA l)[k * 5 + 4]? = some (.int .i64 a.code) := by
  induction l generalizing k with
  | nil => simp at h
  | cons x l ih =>
    cases k with
    | zero => simp at h; subst h; simp [flatA]
    | succ k =>
      have := ih k (by simpa using h)
      simp only [flatA, List.flatMap_cons] at *
      rw [show (k + 1) * 5 = k * 5 + 5 by omega, show k * 5 + 5 + 1 = (k * 5 + 1) + 5 by omega, show k * 5 + 5 + 2 = (k * 5 + 2) + 5 by omega, show k * 5 + 5 + 3 = (k * 5 + 3) + 5 by omega, show k * 5 + 5 + 4 = (k * 5 + 4) + 5 by omega]
      simpa using this

/-- Block s holds a server whose lock is free and whose log is l. -/
structure Srv (w : World) (s : Nat) (l : List An) : Prop where
  blk : ∃ cs, w.heap[s]? = some (.cells cs 66 (0, 0)) ∧ cs.size = 22 ∧ cs[7]? = some (.int .i32 0) ∧ ∃ ao cap, cs[16]? = some (.slice ao l.length cap) ∧ w.ownsRow (s + 1) 68 5 (.slice ao l.length cap) l.length (flatA l)

theorem Srv.lt {w : World} {s : Nat} {l : List An} (h : Srv w s l) : s < w.heap.size := by
  obtain ⟨cs, hb, _⟩ := h.blk
  exact (Array.getElem?_eq_some_iff.1 hb).1

/-- Block r holds a recorder. -/
def Rec (w : World) (r s : Nat) (a : An) (settled : Bool) : Prop := w.heap[r]? = some (.cells (recCells s a settled) 72 (0, 0))

theorem Rec.lt {w : World} {r s : Nat} {a : An} {b : Bool} (h : Rec w r s a b) : r < w.heap.size := (Array.getElem?_eq_some_iff.1 h).1

theorem rec_cell {w : World} {r s : Nat} {a : An} {b : Bool} (h : Rec w r s a b) (j : Nat) : w.cell? ⟨r, j, none⟩ = (recCells s a b)[j]? := cell_of_row w r j _ 72 _ h
theorem rec_frozen {w : World} {r s : Nat} {a : An} {b : Bool} (h : Rec w r s a b) (j : Nat) : w.frozen? ⟨r, j, none⟩ = false := frozen_of_row w r j _ 72 h

set_option maxHeartbeats 400000 in
theorem f9_any (r s : Nat) (a : An) (b : Bool) (w : World) (h : Rec w r s a b) : Calls Tryz.prog 9 #[.pointer (some ⟨r, 0, none⟩)] w fun e w' => e = .returned (.bool b) ∧ w' = w := by
  have c7 : w.cell? ⟨r, 7, none⟩ = some (.bool b) := rec_cell h 7
  go_enter Tryz.func9, Tryz.ntmps9
  go_wp2
  go_ret
  exact ⟨rfl, rfl⟩

set_option maxHeartbeats 400000 in
theorem f10_any (s : Nat) (l : List An) (w : World) (h : Srv w s l) : Calls Tryz.prog 10 #[.pointer (some ⟨s, 0, none⟩)] w fun e w' => e = .returned (.int .i64 l.length) ∧ w' = w := by
  obtain ⟨cs, hb, _, _, ao, cap, h16, _⟩ := h.blk
  have c16 : w.cell? ⟨s, 16, none⟩ = some (.slice ao l.length cap) := (cell_of_row w s 16 cs 66 _ hb).trans h16
  clear hb h16
  go_enter Tryz.func10, Tryz.ntmps10
  go_wp2
  go_ret
  exact ⟨rfl, rfl⟩
end Go.Proofs.Qxb6605618aGreat
