/-
  telling: on a leader, the members whose removal is committed.
-/
import Derived.Test.Qxb6614540aTellC
import Derived.Deep.QuietTactic
import Derived.BigQuiet
namespace Go.Proofs.Qxb6614540a
open Go.RowKit

/-- The cells of a list of members, in one row. -/
def flatM (xs : List Rm) : List Value := xs.flatMap fun m => [.int .u64 m.id, .string m.addr]
theorem flatM_snoc (xs : List Rm) (m : Rm) : flatM (xs ++ [m]) = flatM xs ++ [.int .u64 m.id, .string m.addr] := by simp [flatM]
theorem flatM_length (xs : List Rm) : (flatM xs).length = xs.length * 2 := by
  induction xs with
  | nil => rfl
  | cons m xs ih => simp only [flatM, List.flatMap_cons, List.length_append, List.length_cons, List.length_nil] at *; omega

theorem flat_at (xs : List Rm) (k : Nat) (m : Rm) (h : xs[k]? = some m) :
    (flat xs)[k * 3]? = some (.int .u64 m.id) ∧ (flat xs)[k * 3 + 1]? = some (.string m.addr) ∧ (flat xs)[k * 3 + 2]? = some (.int .u64 m.idx) := by
  induction xs generalizing k with
  | nil => simp at h
  | cons x xs ih =>
    cases k with
    | zero => simp at h; subst h; simp [flat]
    | succ k =>
      have := ih k (by simpa using h)
      simp only [flat, List.flatMap_cons] at *
      rw [show (k + 1) * 3 = k * 3 + 3 by omega, show k * 3 + 3 + 1 = (k * 3 + 1) + 3 by omega, show k * 3 + 3 + 2 = (k * 3 + 2) + 3 by omega]
      simpa using this

theorem flatM_at (xs : List Rm) (k : Nat) (m : Rm) (h : xs[k]? = some m) :
    (flatM xs)[k * 2]? = some (.int .u64 m.id) ∧ (flatM xs)[k * 2 + 1]? = some (.string m.addr) := by
  induction xs generalizing k with
  | nil => simp at h
  | cons x xs ih =>
    cases k with
    | zero => simp at h; subst h; simp [flatM]
    | succ k =>
      have := ih k (by simpa using h)
      simp only [flatM, List.flatMap_cons] at *
      rw [show (k + 1) * 2 = k * 2 + 2 by omega, show k * 2 + 2 + 1 = (k * 2 + 1) + 2 by omega]
      simpa using this

/-- The committed removals among xs. -/
def comm (commit : Int) (xs : List Rm) : List Rm := xs.filter fun m => decide (m.idx ≤ commit)
/-- What a raft tells. -/
def told (role commit : Int) (xs : List Rm) : List Rm := if role = 2 then comm commit xs else []

theorem comm_le (c : Int) (xs : List Rm) : (comm c xs).length ≤ xs.length := List.length_filter_le _ _
theorem comm_take_yes {c : Int} {xs : List Rm} {k : Nat} {m : Rm} (h : xs[k]? = some m) (hm : m.idx ≤ c) : comm c (xs.take (k + 1)) = comm c (xs.take k) ++ [m] := by
  obtain ⟨hk, rfl⟩ := List.getElem?_eq_some_iff.1 h
  unfold comm
  rw [List.take_succ_eq_append_getElem hk, List.filter_append]
  simp [hm]
theorem comm_take_no {c : Int} {xs : List Rm} {k : Nat} {m : Rm} (h : xs[k]? = some m) (hm : ¬ m.idx ≤ c) : comm c (xs.take (k + 1)) = comm c (xs.take k) := by
  obtain ⟨hk, rfl⟩ := List.getElem?_eq_some_iff.1 h
  unfold comm
  rw [List.take_succ_eq_append_getElem hk, List.filter_append]
  simp [hm]

/-- Where a removal of the raft's list lies. -/
theorem own_at {w : World} {p n cap : Nat} {ao : Option Addr} {xs : List Rm} (h : w.ownsRow (p + 1) 126 3 (.slice ao n cap) n (flat xs)) (hn : n = xs.length) {k : Nat} {m : Rm} (hk : xs[k]? = some m) :
    ∃ g, ao = some ⟨g, 0, none⟩ ∧ p < g ∧ g < w.heap.size ∧ w.cell? ⟨g, k * 3, none⟩ = some (.int .u64 m.id) ∧ w.cell? ⟨g, k * 3 + 1, none⟩ = some (.string m.addr) ∧ w.cell? ⟨g, k * 3 + 2, none⟩ = some (.int .u64 m.idx) := by
  have hkl : k < xs.length := (List.getElem?_eq_some_iff.1 hk).1
  obtain ⟨g, cap', hv, hb, hg⟩ := h.form (by omega)
  cases hv
  obtain ⟨f0, f1, f2⟩ := flat_at xs k m hk
  have hc := h.cells (g := g) rfl
  have e : ∀ j, (⟨g, 0, none⟩ : Addr).add j = ⟨g, j, none⟩ := fun j => by unfold Addr.add; split <;> simp_all
  exact ⟨g, rfl, hb, hg, by simpa [e] using hc _ _ f0, by simpa [e] using hc _ _ f1, by simpa [e] using hc _ _ f2⟩

theorem Try.info68 : (Try.prog.info? 68).map (fun i => (i.zero, i.size, i.bytes)) = some (some (.agg #[.int .u64 0, .string ByteArray.empty]), 2, 24) := by kernel_rfl

/-- A slice of members that the call owns from block B on. -/
def Tells (B : Nat) (w : World) (v : Value) (ms : List Rm) : Prop := ∃ ao cap, v = .slice ao ms.length cap ∧ w.ownsRow B 68 2 (.slice ao ms.length cap) ms.length (flatM ms)

theorem own_drewN {w : World} {base : Nat} {e : TypeId} {size : Nat} {v : Value} {n : Nat} {xs : List Value} (q : Nat) (h : w.ownsRow base e size v n xs) : (w.drewN q).ownsRow base e size v n xs := h
theorem two_new (w : World) (o : Obj) (q : Nat) (cs : Array Value) (t : TypeId) : (((w.alloc o).drewN q).alloc (.cells cs t)).heap[w.heap.size + 1]? = some (.cells cs t) := by
  have := heap_alloc_new ((w.alloc o).drewN q) (.cells cs t)
  rwa [show ((w.alloc o).drewN q).heap.size = w.heap.size + 1 from World.size_alloc w o] at this
theorem tell_step {w wr w1 : World} {q e size : Nat} {o1 o2 : Obj} {v : Value} {n : Nat} {xs : List Value} (hbel : Below w.heap.size w wr) (hown : wr.ownsRow w.heap.size e size v n xs)
    (hg : (((wr.alloc o1).drewN q).alloc o2).grownBy w1 v.ownBlock) : Below w.heap.size w w1 := by
  have h1 : Below w.heap.size w (((wr.alloc o1).drewN q).alloc o2) := (below_drewN (hbel.alloc hbel.size _) q).alloc (by have := hbel.size; simp; omega) _
  exact h1.grown hg (by have := hbel.size; simp; omega) (fun k hk => (hown.lt k hk).1)

set_option maxHeartbeats 400000 in
theorem f33_yes (p : Nat) (commit : Int) (xs : List Rm) (w : World) (hs : xs.length ≤ 65536) (h : Raft w p 2 commit xs) :
    Calls Try.prog 33 #[.pointer (some ⟨p, 0, none⟩)] w fun e w' => ∃ v, e = .returned v ∧ Tells w.heap.size w' v (comm commit xs) ∧ Below w.heap.size w w' := by
  obtain ⟨hlt, h42, h46, hfz, ao, cap, h8, hown⟩ := h
  obtain ⟨i0, hi, hz0, hz1, hz2⟩ := info_parts Try.info68
  go_enter Try.func33, Try.ntmps33
  go_wp2
  go_loopw [3, 16] (fun v i wr => ∃ (k : Nat) (ao' : Option Addr) (cap' : Nat), k ≤ xs.length ∧ i = .int .i64 k ∧ v = .slice ao' (comm commit (xs.take k)).length cap' ∧
      wr.ownsRow w.heap.size 68 2 (.slice ao' (comm commit (xs.take k)).length cap') (comm commit (xs.take k)).length (flatM (comm commit (xs.take k))) ∧ Below w.heap.size w wr)
    (fun _ i _ => xs.length - (intOf i).toNat)
  case atStart => exact ⟨0, none, 0, Nat.zero_le _, rfl, rfl, World.ownsRow_nil _ _ _ _, Below.refl _ _⟩
  case round =>
    obtain ⟨k, ao', cap', hk, rfl, rfl, hownr, hbel⟩ := hrel
    by_cases hlt' : k < xs.length
    · have hm : xs[k]? = some xs[k] := List.getElem?_eq_getElem hlt'
      generalize xs[k] = m at hm
      obtain ⟨g, rfl, hpg, hg, c0, c1, c2⟩ := own_at hown rfl hm
      have d0 := (hbel.cell (p := ⟨g, _, none⟩) hg).trans c0
      have d1 := (hbel.cell (p := ⟨g, _, none⟩) hg).trans c1
      have d2 := (hbel.cell (p := ⟨g, _, none⟩) hg).trans c2
      have d3 := (hbel.cell (p := ⟨p, 42, none⟩) hlt).trans h42
      have hkn : (k : Int) < (xs.length : Int) := by omega
      have hpw : p < wr.heap.size := Nat.lt_of_lt_of_le hlt hbel.size
      have HM := hide hm
      clear hm c0 c1 c2
      by_cases hle : m.idx ≤ commit
      · go_wp2_with fail
        go_quiet (fail)
        go_wp2_with (at_builtin; refine wpList_append_lies _ rfl (.tmp 27) (.tmp 30) 61 rfl w.heap.size 68 i0 _ 2 24 Try.underlying61 hi hz0 hz1 hz2 rfl (by decide) (.slice ao' (comm commit (xs.take k)).length cap') (comm commit (xs.take k)).length (flatM (comm commit (xs.take k))) rfl ?c0 ⟨wr.heap.size + 1, 0, none⟩ 1 1 [.int .u64 m.id, .string m.addr] rfl rfl ?c1 ?c2 (by decide) ?c3 ?c4 ?c5 _ rfl ?_)
        case c0 => exact (own_drewN nq (hownr.alloc _)).alloc _
        case c1 => exact World.news_of_block (two_new _ _ _ _ _)
        case c2 => intro u hu; simp at hu; rcases hu with rfl | rfl <;> rfl
        case c3 => have := comm_le commit (xs.take k); have := List.length_take_le k xs; unfold maxLen; omega
        case c4 => have := comm_le commit (xs.take k); have := List.length_take_le k xs; omega
        case c5 => have := hbel.size; simp; omega
        intro g2 cap2 w1 hown1 hgrow _ _
        have hb1 := tell_step hbel hownr hgrow
        have E := hide (comm_take_yes HM.out hle)
        have hown2 : w1.ownsRow w.heap.size 68 2 (.slice (some ⟨g2, 0, none⟩) (comm commit (xs.take (k + 1))).length cap2) (comm commit (xs.take (k + 1))).length (flatM (comm commit (xs.take (k + 1)))) := by
          rw [E.out, flatM_snoc, List.length_append]; exact hown1
        clear hown1 hgrow
        go_wp2
        go_roundw
        case rel => exact ⟨k + 1, _, _, by omega, by go_num, by rw [E.out, List.length_append]; rfl, hown2, hb1⟩
        case measure => simp [intOf]; omega
      · have hle' : decide (m.idx ≤ commit) = false := by simpa using hle
        have E := hide (comm_take_no HM.out hle)
        go_wp2_with fail
        go_quiet (fail)
        go_wp2
        go_roundw
        case rel => exact ⟨k + 1, ao', cap', by omega, by go_num, by rw [E.out], by rw [E.out]; exact own_drewN nq (hownr.alloc _), below_drewN (hbel.alloc hbel.size _) nq⟩
        case measure => simp [intOf]; omega
    · obtain rfl : k = xs.length := by omega
      go_wp2
      go_ret
      exact ⟨_, rfl, ⟨ao', cap', by simp, by simpa using hownr⟩, hbel⟩
end Go.Proofs.Qxb6614540a
