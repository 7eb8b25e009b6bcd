/-
  ZZansweredAt, zzLogAt, and zzBytes of the law of two recorders.
-/
import Derived.Test.Qxb6605618aGreatRecA
namespace Go.Proofs.Qxb6605618aGreat
open Go.RowKit

theorem log_cells {w : World} {s : Nat} {l : List An} {ao : Option Addr} {cap k : Nat} {a : An} (hown : w.ownsRow (s + 1) 68 5 (.slice ao l.length cap) l.length (flatA l)) (hk : l[k]? = some a) :
    ∃ g, ao = some ⟨g, 0, none⟩ ∧ g < w.heap.size ∧ l.length ≤ cap ∧ w.cell? ⟨g, k * 5, none⟩ = some (.string a.method) ∧ w.cell? ⟨g, k * 5 + 1, none⟩ = some (.string a.path) ∧ w.cell? ⟨g, k * 5 + 2, none⟩ = some (.string a.query) ∧ w.cell? ⟨g, k * 5 + 3, none⟩ = some (.string a.ctype) ∧ w.cell? ⟨g, k * 5 + 4, none⟩ = some (.int .i64 a.code) := by
  have hlt : k < l.length := (List.getElem?_eq_some_iff.1 hk).1
  obtain ⟨h0, h1, h2, h3, h4⟩ := flatA_at l k a hk
  have hcap : l.length ≤ cap := by
    rcases hown.2 with ⟨hv, hn⟩ | ⟨g, cap1, cur, hv, _, _, hc, _⟩
    · omega
    · simp at hv; omega
  obtain ⟨g, cap', hv, _, hg⟩ := hown.form (by omega)
  simp only [Value.slice.injEq] at hv
  obtain ⟨rfl, _, rfl⟩ := hv
  have at_ : ∀ j, j < l.length * 5 → w.cell? ⟨g, j, none⟩ = (flatA l)[j]? := fun j hj => hown.cellAt j hj
  exact ⟨g, rfl, hg, hcap, (at_ _ (by omega)).trans h0, (at_ _ (by omega)).trans h1, (at_ _ (by omega)).trans h2, (at_ _ (by omega)).trans h3, (at_ _ (by omega)).trans h4⟩

theorem below_drewN {B : Nat} {w w' : World} (h : Below B w w') (q : Nat) : Below B w (w'.drewN q) := ⟨h.os, h.tape, h.output, h.size, h.block⟩

theorem results_tmp5 {fn : Func} {t u v x y : Tmp} (h : fn.results = #[.tmp t, .tmp u, .tmp v, .tmp x, .tmp y]) (tmps : Array Value) (P : Program) (w : World) :
    (results fn tmps).run P w = .ok (.tuple #[tmps.getD t undef, tmps.getD u undef, tmps.getD v undef, tmps.getD x undef, tmps.getD y undef]) w := by
  simp [results, h]

set_option maxRecDepth 100000 in
set_option maxHeartbeats 1000000 in
theorem f14_any (s : Nat) (l : List An) (k : Nat) (a : An) (w : World) (h : Srv w s l) (hk : l[k]? = some a) :
    Calls Tryz.prog 14 #[.pointer (some ⟨s, 0, none⟩), .int .i64 k] w fun e w' => e = .returned (.tuple #[.string a.method, .string a.path, .string a.query, .string a.ctype, .int .i64 a.code]) ∧ Below w.heap.size w w' := by
  have hlt : k < l.length := (List.getElem?_eq_some_iff.1 hk).1
  obtain ⟨cs, hb, _, _, ao, cap, h16, hown⟩ := h.blk
  have c16 : w.cell? ⟨s, 16, none⟩ = some (.slice ao l.length cap) := (cell_of_row w s 16 cs 66 _ hb).trans h16
  obtain ⟨g, rfl, hg, hcap, c0, c1, c2, c3, c4⟩ := log_cells hown hk
  clear hb h16 hown h
  have hlt' : (k : Int) < (l.length : Int) := by omega
  go_enter Tryz.func14, Tryz.ntmps14
  go_wp2_with fail
  go_quiet (fail)
  go_wp2_with fail
  (try simp only [Exit.inBlock, Exit.then])
  refine bodyPost_ret (results_tmp5 rfl _ _ _) rfl ?_
  exact ⟨rfl, below_drewN ((Below.refl _ _).alloc (Nat.le_refl _) _) _⟩

set_option maxHeartbeats 1000000 in
theorem f11_any (s : Nat) (l : List An) (k : Nat) (a : An) (w : World) (h : Srv w s l) (hk : l[k]? = some a) :
    Calls Tryz.prog 11 #[.pointer (some ⟨s, 0, none⟩), .int .i64 k, .string a.method, .string a.path, .string a.query, .string a.ctype, .int .i64 a.code] w fun e w' => e = .returned (.bool true) ∧ Below w.heap.size w w' := by
  go_enter Tryz.func11, Tryz.ntmps11
  go_wp2_with fail
  refine (f14_any s l k a w h hk).mono ?_
  rintro e w' ⟨rfl, hb⟩
  go_wp2_with fail
  go_ret
  exact ⟨rfl, hb⟩

/-- What zzBytes answers: true only where the sizes sum to at most 1<<20. -/
def Guarded (e : Ending) (n : Nat) : Prop := ∃ q, e = .returned (.bool q) ∧ (q = true → n ≤ 1048576)

set_option maxRecDepth 100000 in
set_option maxHeartbeats 4000000 in
theorem f5_any (a b : An) (p q : Bool) (w : World) :
    Calls Tryz.prog 5 #[.string a.method, .string a.path, .string a.query, .string a.ctype, .int .i64 a.code, .bool p, .string b.method, .string b.path, .string b.query, .string b.ctype, .int .i64 b.code, .bool q] w fun e w' =>
      w' = w ∧ Guarded e (a.method.size + a.path.size + a.query.size + a.ctype.size + b.method.size + b.path.size + b.query.size + b.ctype.size) := by
  by_cases h0 : 1048576 < (a.method.size : Int)
  · go_enter Tryz.func5, Tryz.ntmps5
    go_wp2
    go_ret
    exact ⟨rfl, false, rfl, by simp⟩
  by_cases h1 : 1048576 < (a.path.size : Int)
  · go_enter Tryz.func5, Tryz.ntmps5
    go_wp2
    go_ret
    exact ⟨rfl, false, rfl, by simp⟩
  by_cases h2 : 1048576 < (a.method.size : Int) + (a.path.size : Int)
  · go_enter Tryz.func5, Tryz.ntmps5
    go_wp2
    go_ret
    exact ⟨rfl, false, rfl, by simp⟩
  by_cases h3 : 1048576 < (a.query.size : Int)
  · go_enter Tryz.func5, Tryz.ntmps5
    go_wp2
    go_ret
    exact ⟨rfl, false, rfl, by simp⟩
  by_cases h4 : 1048576 < (a.method.size : Int) + (a.path.size : Int) + (a.query.size : Int)
  · go_enter Tryz.func5, Tryz.ntmps5
    go_wp2
    go_ret
    exact ⟨rfl, false, rfl, by simp⟩
  by_cases h5 : 1048576 < (a.ctype.size : Int)
  · go_enter Tryz.func5, Tryz.ntmps5
    go_wp2
    go_ret
    exact ⟨rfl, false, rfl, by simp⟩
  by_cases h6 : 1048576 < (a.method.size : Int) + (a.path.size : Int) + (a.query.size : Int) + (a.ctype.size : Int)
  · go_enter Tryz.func5, Tryz.ntmps5
    go_wp2
    go_ret
    exact ⟨rfl, false, rfl, by simp⟩
  by_cases h7 : 1048576 < (b.method.size : Int)
  · go_enter Tryz.func5, Tryz.ntmps5
    go_wp2
    go_ret
    exact ⟨rfl, false, rfl, by simp⟩
  by_cases h8 : 1048576 < (a.method.size : Int) + (a.path.size : Int) + (a.query.size : Int) + (a.ctype.size : Int) + (b.method.size : Int)
  · go_enter Tryz.func5, Tryz.ntmps5
    go_wp2
    go_ret
    exact ⟨rfl, false, rfl, by simp⟩
  by_cases h9 : 1048576 < (b.path.size : Int)
  · go_enter Tryz.func5, Tryz.ntmps5
    go_wp2
    go_ret
    exact ⟨rfl, false, rfl, by simp⟩
  by_cases h10 : 1048576 < (a.method.size : Int) + (a.path.size : Int) + (a.query.size : Int) + (a.ctype.size : Int) + (b.method.size : Int) + (b.path.size : Int)
  · go_enter Tryz.func5, Tryz.ntmps5
    go_wp2
    go_ret
    exact ⟨rfl, false, rfl, by simp⟩
  by_cases h11 : 1048576 < (b.query.size : Int)
  · go_enter Tryz.func5, Tryz.ntmps5
    go_wp2
    go_ret
    exact ⟨rfl, false, rfl, by simp⟩
  by_cases h12 : 1048576 < (a.method.size : Int) + (a.path.size : Int) + (a.query.size : Int) + (a.ctype.size : Int) + (b.method.size : Int) + (b.path.size : Int) + (b.query.size : Int)
  · go_enter Tryz.func5, Tryz.ntmps5
    go_wp2
    go_ret
    exact ⟨rfl, false, rfl, by simp⟩
  by_cases h13 : 1048576 < (b.ctype.size : Int)
  · go_enter Tryz.func5, Tryz.ntmps5
    go_wp2
    go_ret
    exact ⟨rfl, false, rfl, by simp⟩
  by_cases h14 : 1048576 < (a.method.size : Int) + (a.path.size : Int) + (a.query.size : Int) + (a.ctype.size : Int) + (b.method.size : Int) + (b.path.size : Int) + (b.query.size : Int) + (b.ctype.size : Int)
  · go_enter Tryz.func5, Tryz.ntmps5
    go_wp2
    go_ret
    exact ⟨rfl, false, rfl, by simp⟩
  go_enter Tryz.func5, Tryz.ntmps5
  go_wp2
  go_ret
  exact ⟨rfl, true, rfl, fun _ => by omega⟩
end Go.Proofs.Qxb6605618aGreat
