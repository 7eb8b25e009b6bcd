/-
  The walks of newStatus, ZZnewStatus, zzFailureEnvelope and zzBytes.
-/
import Derived.Test.Qxb6605973aRows
import Derived.WalkKit
import Derived.ProofKit
namespace Go.Proofs.Qxb6605973a
open Go.RowKit

/-- The cells of a Status as newStatus makes it; k is the code's cell. -/
def statCells (r m : ByteArray) (k : Value) : Array Value :=
  #[.string ⟨#[83, 116, 97, 116, 117, 115]⟩, .string ⟨#[118, 49]⟩, .string ⟨#[]⟩, .string ⟨#[70, 97, 105, 108, 117, 114, 101]⟩, .string m, .string r, .pointer none, k]

set_option maxHeartbeats 400000 in
theorem f18_any (c : Int) (r m : ByteArray) (w : World) : Calls Try.prog 18 #[.int .i64 c, .string r, .string m] w fun e w' =>
    e = .returned (.pointer (some ⟨w.heap.size, 0, none⟩)) ∧ ∃ k, w' = w.alloc (.cells (statCells r m k) 33) := by
  go_enter Try.func18, Try.ntmps18
  go_wp2
  go_ret
  exact ⟨rfl, _, rfl⟩

set_option maxHeartbeats 400000 in
theorem f7_any (c : Int) (r m : ByteArray) (w : World) : Calls Try.prog 7 #[.int .i64 c, .string r, .string m] w fun e w' =>
    e = .returned (.pointer (some ⟨w.heap.size, 0, none⟩)) ∧ ∃ k, w' = w.alloc (.cells (statCells r m k) 33) := by
  go_enter Try.func7, Try.ntmps7
  go_wp2_with fail
  refine (f18_any c r m _).mono ?_
  rintro e w' ⟨rfl, k, rfl⟩
  go_wp2_with fail
  go_ret
  exact ⟨rfl, _, rfl⟩

/-- Block b holds such a Status. -/
def Stat (w : World) (b : Nat) (r m : ByteArray) : Prop := ∃ k, w.heap[b]? = some (.cells (statCells r m k) 33 (0, 0))

theorem Stat.cell {w : World} {b : Nat} {r m : ByteArray} (h : Stat w b r m) (j : Nat) (hj : j < 7) : w.cell? ⟨b, j, none⟩ = (statCells r m .nilFunc)[j]? := by
  obtain ⟨k, h⟩ := h
  rw [cell_of_row w b j _ 33 _ h]
  match j, hj with
  | 0, _ => rfl
  | 1, _ => rfl
  | 2, _ => rfl
  | 3, _ => rfl
  | 4, _ => rfl
  | 5, _ => rfl
  | 6, _ => rfl

set_option maxHeartbeats 400000 in
theorem f8_any (b : Nat) (r m : ByteArray) (w : World) (h : Stat w b r m) : Calls Try.prog 8 #[.pointer (some ⟨b, 0, none⟩)] w fun e w' => e = .returned (.bool true) ∧ w' = w := by
  have c0 : w.cell? ⟨b, 0, none⟩ = some (.string ⟨#[83, 116, 97, 116, 117, 115]⟩) := h.cell 0 (by omega)
  have c1 : w.cell? ⟨b, 1, none⟩ = some (.string ⟨#[118, 49]⟩) := h.cell 1 (by omega)
  have c2 : w.cell? ⟨b, 2, none⟩ = some (.string ⟨#[]⟩) := h.cell 2 (by omega)
  have c3 : w.cell? ⟨b, 3, none⟩ = some (.string ⟨#[70, 97, 105, 108, 117, 114, 101]⟩) := h.cell 3 (by omega)
  have c6 : w.cell? ⟨b, 6, none⟩ = some (.pointer none) := h.cell 6 (by omega)
  clear h
  go_enter Try.func8, Try.ntmps8
  go_wp2
  go_ret
  exact ⟨rfl, rfl⟩

/-- What zzBytes answers: true only where the sizes sum to at most 1<<20. -/
def Guarded (e : Ending) (n : Nat) : Prop := ∃ q, e = .returned (.bool q) ∧ (q = true → n ≤ 1048576)

set_option maxHeartbeats 1000000 in
theorem f6_any (i j : Int) (a b c d : ByteArray) (w : World) :
    Calls Try.prog 6 #[.int .i64 i, .string a, .string b, .int .i64 j, .string c, .string d] w fun e w' => w' = w ∧ Guarded e (a.size + b.size + c.size + d.size) := by
  by_cases h0 : 1048576 < (a.size : Int)
  · go_enter Try.func6, Try.ntmps6
    go_wp2
    go_ret
    exact ⟨rfl, false, rfl, by simp⟩
  by_cases h1 : 1048576 < (b.size : Int)
  · go_enter Try.func6, Try.ntmps6
    go_wp2
    go_ret
    exact ⟨rfl, false, rfl, by simp⟩
  by_cases h2 : 1048576 < (a.size : Int) + (b.size : Int)
  · go_enter Try.func6, Try.ntmps6
    go_wp2
    go_ret
    exact ⟨rfl, false, rfl, by simp⟩
  by_cases h3 : 1048576 < (c.size : Int)
  · go_enter Try.func6, Try.ntmps6
    go_wp2
    go_ret
    exact ⟨rfl, false, rfl, by simp⟩
  by_cases h4 : 1048576 < (a.size : Int) + (b.size : Int) + (c.size : Int)
  · go_enter Try.func6, Try.ntmps6
    go_wp2
    go_ret
    exact ⟨rfl, false, rfl, by simp⟩
  by_cases h5 : 1048576 < (d.size : Int)
  · go_enter Try.func6, Try.ntmps6
    go_wp2
    go_ret
    exact ⟨rfl, false, rfl, by simp⟩
  by_cases h6 : 1048576 < (a.size : Int) + (b.size : Int) + (c.size : Int) + (d.size : Int)
  · go_enter Try.func6, Try.ntmps6
    go_wp2
    go_ret
    exact ⟨rfl, false, rfl, by simp⟩
  go_enter Try.func6, Try.ntmps6
  go_wp2
  go_ret
  exact ⟨rfl, true, rfl, fun _ => by omega⟩
end Go.Proofs.Qxb6605973a
