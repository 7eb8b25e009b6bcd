/-
  record, ZZrecord.
-/
import Derived.Test.Qxb6605618aGreatRecA
import Derived.Deep.RegionLaw
namespace Go.Proofs.Qxb6605618aGreat
open Go.RowKit Go.MuLone

theorem info68 : (Tryz.prog.info? 68).map (fun i => (i.zero, i.size, i.bytes)) = some (some (.agg #[.string ⟨#[]⟩, .string ⟨#[]⟩, .string ⟨#[]⟩, .string ⟨#[]⟩, .int .i64 0]), 5, 72) := by kernel_rfl

set_option maxHeartbeats 400000 in
theorem f13_done (r s : Nat) (a : An) (w : World) (h : Rec w r s a true) : Calls Tryz.prog 13 #[.pointer (some ⟨r, 0, none⟩)] w fun e w' => e = .returned (.tuple #[]) ∧ w' = w := by
  have c7 : w.cell? ⟨r, 7, none⟩ = some (.bool true) := rec_cell h 7
  go_enter_defers Tryz.func13, Tryz.ntmps13
  go_wp2_with fail
  exact ⟨_, results_none rfl _ _ _, rfl, rfl⟩

/-- What a recording leaves alone. -/
structure Apart (w w' : World) (r s : Nat) : Prop where
  below : Below s w w'
  rest : ∀ b cs t, b ≠ r → b ≠ s → t ≠ 68 → w.heap[b]? = some (.cells cs t (0, 0)) → w'.heap[b]? = w.heap[b]?

theorem set_blk {w : World} {b j : Nat} {v : Value} {cs : Array Value} {t : TypeId} (h : w.heap[b]? = some (.cells cs t (0, 0))) : (w.setCell ⟨b, j, none⟩ v).heap[b]? = some (.cells (cs.set! j v) t (0, 0)) := by
  simp [World.setCell, Array.getElem?_modify, h, Array.set!]

/-- Behind an append to the log a block that is no log row is as it was. -/
theorem grow_far {w1 w3 : World} {base n : Nat} {v : Value} {xs : List Value} {o : Obj} (own : w1.ownsRow base 68 5 v n xs) (hg : ((w1.alloc o).drew).grownBy w3 v.ownBlock) {b : Nat} {cs : Array Value} {t : TypeId} (hb : w1.heap[b]? = some (.cells cs t (0, 0))) (ht : t ≠ 68) :
    w3.heap[b]? = w1.heap[b]? := by
  have hlt : b < w1.heap.size := (Array.getElem?_eq_some_iff.1 hb).1
  have e1 : (w1.alloc o).drew.heap[b]? = w1.heap[b]? := Below.heap_alloc w1 o b hlt
  refine (hg.block b (by show b < (w1.alloc o).heap.size; simp; omega) ?_).trans e1
  rcases own.2 with ⟨rfl, _⟩ | ⟨g, cap, cur, rfl, _, hh, _⟩
  · simp [Value.ownBlock]
  · simp only [Value.ownBlock, ne_eq, Option.some.injEq]
    rintro rfl
    rw [hb] at hh
    simp at hh
    exact ht hh.2

theorem own_other {w w' : World} {base n : Nat} {e : TypeId} {size : Nat} {v : Value} {xs : List Value} (own : w.ownsRow base e size v n xs) (h : ∀ (b : Nat) (cur : Array Value), w.heap[b]? = some (.cells cur e (0, 0)) → w'.heap[b]? = w.heap[b]?) : w'.ownsRow base e size v n xs := by
  refine ⟨own.1, ?_⟩
  rcases own.2 with h0 | ⟨g, cap, cur, hv, hb, hh, r⟩
  · exact .inl h0
  · exact .inr ⟨g, cap, cur, hv, hb, (h g cur hh).trans hh, r⟩

/-- What stands behind the record: the log has grown by one, the lock is free. -/
theorem recorded {w w1 w3 : World} {r s : Nat} {a : An} {l : List An} {cs : Array Value} {o : Obj} {v : Value} {g cap' : Nat} (HR1 : Rec w1 r s a true) (HB1 : w1.heap[s]? = some (.cells (cs.set! 7 (.int .i32 1)) 66 (0, 0))) (HC : cs.size = 22)
    (OW1 : w1.ownsRow (s + 1) 68 5 v l.length (flatA l)) (BEL1 : Below s w w1) (rest1 : ∀ b cs t, b ≠ r → b ≠ s → t ≠ 68 → w.heap[b]? = some (.cells cs t (0, 0)) → w1.heap[b]? = w.heap[b]?) (hrs : s < r)
    (hown3 : w3.ownsRow (s + 1) 68 5 (.slice (some ⟨g, 0, none⟩) (l.length + 1) cap') (l.length + 1) (flatA l ++ [.string a.method, .string a.path, .string a.query, .string a.ctype, .int .i64 a.code]))
    (hgrow : ((w1.alloc o).drew).grownBy w3 v.ownBlock) :
    (w3.setCell ⟨s, 16, none⟩ (.slice (some ⟨g, 0, none⟩) (l.length + 1) cap')).cell? ⟨s, 7, none⟩ = some (.int .i32 1) ∧ (w3.setCell ⟨s, 16, none⟩ (.slice (some ⟨g, 0, none⟩) (l.length + 1) cap')).frozen? ⟨s, 7, none⟩ = false ∧
    Rec ((w3.setCell ⟨s, 16, none⟩ (.slice (some ⟨g, 0, none⟩) (l.length + 1) cap')).setCell ⟨s, 7, none⟩ (.int .i32 0)) r s a true ∧ Srv ((w3.setCell ⟨s, 16, none⟩ (.slice (some ⟨g, 0, none⟩) (l.length + 1) cap')).setCell ⟨s, 7, none⟩ (.int .i32 0)) s (l ++ [a]) ∧
    Apart w ((w3.setCell ⟨s, 16, none⟩ (.slice (some ⟨g, 0, none⟩) (l.length + 1) cap')).setCell ⟨s, 7, none⟩ (.int .i32 0)) r s := by
  have E1 := grow_far OW1 hgrow HR1 (by decide)
  have E2 := (grow_far OW1 hgrow HB1 (by decide)).trans HB1
  have lt1 : s < w1.heap.size := (Array.getElem?_eq_some_iff.1 HB1).1
  have ne : r ≠ s := by omega
  have b4 := set_blk (j := 16) (v := .slice (some ⟨g, 0, none⟩) (l.length + 1) cap') E2
  have b5 := set_blk (j := 7) (v := .int .i32 0) b4
  refine ⟨?_, ?_, ?_, ⟨_, b5, ?_, ?_, some ⟨g, 0, none⟩, cap', ?_, ?_⟩, ⟨?_, ?_⟩⟩
  · rw [cell_of_row _ s 7 _ 66 _ b4]
    simp [Array.set!, HC]
  · exact frozen_of_row _ s 7 _ 66 b4
  · unfold Rec
    rw [Below.heap_setCell _ _ _ _ ne, Below.heap_setCell _ _ _ _ ne]
    exact E1.trans HR1
  · simp [Array.set!, HC]
  · simp [Array.set!, HC]
  · simp [Array.set!, HC]
  · rw [flatA_snoc, List.length_append]
    exact ownsRow_setCell_below (ownsRow_setCell_below hown3 (Nat.lt_succ_self _) _) (Nat.lt_succ_self _) _
  · refine Below.setCell (p := ⟨s, 7, none⟩) (Below.setCell (p := ⟨s, 16, none⟩) ?_ (Nat.le_refl s) _) (Nat.le_refl s) _
    refine ((BEL1.alloc (by omega) _).drew).grown hgrow (by show s ≤ (w1.alloc o).heap.size; simp; omega) fun k hk => ?_
    have := (OW1.lt k hk).1
    omega
  · intro b cs' t n1 n2 n3 hb
    have e := rest1 b cs' t n1 n2 n3 hb
    rw [Below.heap_setCell _ _ _ _ n2, Below.heap_setCell _ _ _ _ n2, grow_far OW1 hgrow (e.trans hb) n3, e]

set_option maxRecDepth 100000 in
set_option maxHeartbeats 1000000 in
theorem f13_new (r s : Nat) (a : An) (l : List An) (w : World) (h : Rec w r s a false) (hs : Srv w s l) (hl : l.length ≤ 65536) (hrs : s < r) :
    Calls Tryz.prog 13 #[.pointer (some ⟨r, 0, none⟩)] w fun e w' => e = .returned (.tuple #[]) ∧ Rec w' r s a true ∧ Srv w' s (l ++ [a]) ∧ Apart w w' r s := by
  obtain ⟨cs, hb, hcs, h7, ao, cap, h16, hown⟩ := hs.blk
  have r1 : w.cell? ⟨r, 1, none⟩ = some (.pointer (some ⟨s, 0, none⟩)) := rec_cell h 1
  have r7 : w.cell? ⟨r, 7, none⟩ = some (.bool false) := rec_cell h 7
  have f7 : w.frozen? ⟨r, 7, none⟩ = false := rec_frozen h 7
  have s7 : w.cell? ⟨s, 7, none⟩ = some (.int .i32 0) := (cell_of_row w s 7 cs 66 _ hb).trans h7
  have g7 : w.frozen? ⟨s, 7, none⟩ = false := frozen_of_row w s 7 cs 66 hb
  obtain ⟨i0, hi, hz0, hz1, hz2⟩ := info_parts info68
  have HI := hide hi
  have HO := hide hown
  have HB := hide hb
  have HC := hide hcs
  have H16 := hide h16
  have HR := hide h
  clear hi hown hb h7 h16 h hcs
  have ne : r ≠ s := by omega
  have ne' : s ≠ r := by omega
  go_enter_defers Tryz.func13, Tryz.ntmps13
  go_wp2_with fail
  refine (lock_free Tryz.muLib ⟨s, 7, none⟩ _ ?_ ?_).mono ?_
  · exact (World.cell?_setCell_other _ _ _ _ (by simp <;> omega)).trans s7
  · rw [World.frozen?_setCell]; exact g7
  rintro e w1 ⟨rfl, hw1⟩
  have HR1 : Rec w1 r s a true := by
    show w1.heap[r]? = _
    rw [hw1, Below.heap_setCell _ _ _ _ ne, set_blk HR.out]
    rfl
  have HB1 : w1.heap[s]? = some (.cells (cs.set! 7 (.int .i32 1)) 66 (0, 0)) := by
    rw [hw1]
    exact set_blk ((Below.heap_setCell _ _ _ _ ne').trans HB.out)
  have own1 : w1.ownsRow (s + 1) 68 5 (.slice ao l.length cap) l.length (flatA l) := by
    refine own_other HO.out fun b cur hbc => ?_
    have n1 : b ≠ r := by rintro rfl; rw [show w.heap[b]? = _ from HR.out] at hbc; simp at hbc
    have n2 : b ≠ s := by rintro rfl; rw [HB.out] at hbc; simp at hbc
    rw [hw1, Below.heap_setCell _ _ _ _ n2, Below.heap_setCell _ _ _ _ n1]
  have bel1 : Below s w w1 := by rw [hw1]; exact ((Below.refl _ _).setCell (p := ⟨r, 7, none⟩) (Nat.le_of_lt hrs) _).setCell (p := ⟨s, 7, none⟩) (Nat.le_refl _) _
  have rest1 : Hid (∀ b cs t, b ≠ r → b ≠ s → t ≠ 68 → w.heap[b]? = some (.cells cs t (0, 0)) → w1.heap[b]? = w.heap[b]?) := hide fun b cs t n1 n2 _ _ => by
    rw [hw1, Below.heap_setCell _ _ _ _ n2, Below.heap_setCell _ _ _ _ n1]
  replace r1 : w1.cell? ⟨r, 1, none⟩ = some (.pointer (some ⟨s, 0, none⟩)) := rec_cell HR1 1
  have r2 : w1.cell? ⟨r, 2, none⟩ = some (.string a.method) := rec_cell HR1 2
  have r3 : w1.cell? ⟨r, 3, none⟩ = some (.string a.path) := rec_cell HR1 3
  have r4 : w1.cell? ⟨r, 4, none⟩ = some (.string a.query) := rec_cell HR1 4
  have r5 : w1.cell? ⟨r, 5, none⟩ = some (.string a.ctype) := rec_cell HR1 5
  have r6 : w1.cell? ⟨r, 6, none⟩ = some (.int .i64 a.code) := rec_cell HR1 6
  have s16 : w1.cell? ⟨s, 16, none⟩ = some (.slice ao l.length cap) := by
    rw [cell_of_row w1 s 16 _ 66 _ HB1]
    simp [Array.set!, H16.out]
  have g16 : w1.frozen? ⟨s, 16, none⟩ = false := frozen_of_row w1 s 16 _ 66 HB1
  have lt1 : s < w1.heap.size := (Array.getElem?_eq_some_iff.1 HB1).1
  have ltr : r < w1.heap.size := HR1.lt
  have nr : r ≠ w1.heap.size := by omega
  have ns : s ≠ w1.heap.size := by omega
  have HR1 := hide HR1
  have HB1 := hide HB1
  have OW1 := hide own1
  have BEL1 := hide bel1
  clear hw1 own1 bel1 r7 f7 s7 g7 HR HB HO
  go_wp2_with fail
  refine wp_region_noPanic ?_
  go_region_law (((refine step_append_lies _ (by rfl) (.tmp 32) (.tmp 37) 59 (by rfl) (s + 1) 68 i0 _ 5 72 Tryz.underlying59 HI.out hz0 hz1 hz2 (by rfl) (by omega) (.slice ao l.length cap) l.length (flatA l) (by rfl) (OW1.out.alloc _) ⟨w1.heap.size, 0, none⟩ 1 1 [.string a.method, .string a.path, .string a.query, .string a.ctype, .int .i64 a.code] (by rfl) (by rfl) (World.news_of_block (heap_alloc_new w1 _)) (by simp [Value.oneCell']) (by omega) (by simp only [maxLen]; omega) (by omega) (by show s + 1 ≤ (w1.alloc _).heap.size; simp; omega) _ (by rfl) ?_; intro g cap' w3 hown3 hgrow hat hlt; have E1 := grow_far OW1.out hgrow HR1.out (by decide); have E2 := grow_far OW1.out hgrow HB1.out (by decide); have q1 : w3.cell? ⟨s, 16, none⟩ = some (.slice ao l.length cap) := (World.cell?_of_block E2).trans s16; have q2 : w3.frozen? ⟨s, 16, none⟩ = false := (World.frozen?_of_block E2).trans g16; have q3 : w3.cell? ⟨r, 1, none⟩ = some (.pointer (some ⟨s, 0, none⟩)) := (World.cell?_of_block E1).trans r1)))
  all_goals refine NoPanic.normal ?_
  all_goals obtain ⟨u1, u2, u3, u4, u5⟩ := recorded HR1.out HB1.out HC.out OW1.out BEL1.out rest1.out hrs hown3 hgrow
  all_goals clear hown3 hgrow q1 q2 q3 E1 E2
  all_goals go_wp2_with fail
  all_goals refine leaves_cons (f := 16) (args := #[.pointer (some ⟨s, 7, none⟩)]) (by simp) (by simp [go_sem]) ?_
  all_goals refine (unlock_deferred Tryz.muLib ⟨s, 7, none⟩ .returning _ u1 u2).mono ?_
  all_goals rintro e u' w'' ⟨rfl, rfl, rfl⟩
  all_goals exact ⟨_, results_none rfl _ _ _, rfl, u3, u4, u5⟩
end Go.Proofs.Qxb6605618aGreat
