/-
  buildRaft: a raft whose 'leaving' holds the rows lo .. hi.
-/
import Derived.Test.Qxb6614540aTellB
namespace Go.Proofs.Qxb6614540a
open Go.RowKit

/-- The rows lo .. hi. -/
def rmsOf (R : Nat → Rm) (lo hi : Nat) : List Rm := (List.range (hi - lo)).map fun j => R (lo + j)
theorem rmsOf_self (R : Nat → Rm) (lo : Nat) : rmsOf R lo lo = [] := by simp [rmsOf]
theorem rmsOf_succ (R : Nat → Rm) (lo k : Nat) (h : lo ≤ k) : rmsOf R lo (k + 1) = rmsOf R lo k ++ [R k] := by
  unfold rmsOf
  rw [show k + 1 - lo = (k - lo) + 1 by omega, List.range_succ, List.map_append]
  simp [show lo + (k - lo) = k by omega]
theorem rmsOf_length (R : Nat → Rm) (lo k : Nat) : (rmsOf R lo k).length = k - lo := by simp [rmsOf]

theorem RowsAt.below {w w' : World} {ao : Option Addr} {n : Nat} {R : Nat → Rm} (h : RowsAt w ao n R) (hb : Below w.heap.size w w') : RowsAt w' ao n R := by
  refine ⟨h.small, ?_⟩
  rcases h.place with h0 | ⟨b, off, hao, hlt, hc⟩
  · exact .inl h0
  · refine .inr ⟨b, off, hao, Nat.lt_of_lt_of_le hlt hb.size, fun k hk => ?_⟩
    obtain ⟨c0, c1, c2⟩ := hc k hk
    exact ⟨(hb.cell (p := ⟨b, _, none⟩) hlt).trans c0, (hb.cell (p := ⟨b, _, none⟩) hlt).trans c1, (hb.cell (p := ⟨b, _, none⟩) hlt).trans c2⟩

theorem fresh_raft {w : World} {role commit : Int} {cs : Array Value} (h : FreshRaft role commit cs) : Raft (w.alloc (.cells cs 124)) w.heap.size role commit [] := by
  refine ⟨by simp, by simp [h.c42], by simp [h.c46], by rw [World.frozen?_alloc_new], none, 0, by simp [h.c8], World.ownsRow_nil _ _ _ _⟩

theorem Raft.drew {w : World} {p : Nat} {role commit : Int} {xs : List Rm} (h : Raft w p role commit xs) : Raft w.drew p role commit xs := by
  obtain ⟨ao, cap, h8, hown⟩ := h.own
  exact ⟨h.lt, h.c42, h.c46, h.fz, ao, cap, h8, hown⟩

set_option maxHeartbeats 400000 in
theorem f27_any (role commit : Int) (ao : Option Addr) (n cap : Nat) (R : Nat → Rm) (lo hi : Int) (w : World) (h : RowsAt w ao n R) (hlo : 0 ≤ lo) (hlh : lo ≤ hi) (hhi : hi ≤ n) (hs : n ≤ 65536) :
    Calls Try.prog 27 #[.int .u8 role, .int .u64 commit, .slice ao n cap, .int .i64 lo, .int .i64 hi] w fun e w' =>
      e = .returned (.pointer (some ⟨w.heap.size, 0, none⟩)) ∧ Raft w' w.heap.size role commit (rmsOf R lo.toNat hi.toNat) ∧ Below w.heap.size w w' := by
  obtain ⟨l, rfl⟩ := Int.eq_ofNat_of_zero_le hlo
  obtain ⟨u, rfl⟩ := Int.eq_ofNat_of_zero_le (show 0 ≤ hi by omega)
  rw [Int.toNat_natCast, Int.toNat_natCast]
  have hbel0 : ∀ cs, Below w.heap.size w (w.alloc (.cells cs 124)) := fun cs => (Below.refl _ _).alloc (Nat.le_refl _) _
  obtain ⟨_, hp⟩ := h
  go_enter Try.func27, Try.ntmps27
  go_wp2_with (go_at_call 34; refine (f34_any role commit _).mono ?_; rintro e w1 ⟨rfl, cs, hf, rfl⟩)
  have HR0 := hide (fresh_raft (w := w) hf)
  go_loopw [12] (fun i wr => ∃ k : Nat, l ≤ k ∧ k ≤ u ∧ i = .int .i64 k ∧ Raft wr w.heap.size role commit (rmsOf R l k) ∧ Below w.heap.size w wr) (fun i _ => u - (intOf i).toNat)
  case atStart => exact ⟨l, by omega, by omega, rfl, by rw [rmsOf_self]; exact HR0.out, hbel0 cs⟩
  case round =>
    obtain ⟨k, hlk, hku, rfl, hR, hbel⟩ := hrel
    by_cases hlt : k < u
    · rcases hp with h0 | ⟨b, off, rfl, hb, hc⟩
      · omega
      · obtain ⟨c0, c1, c2⟩ := hc k (by omega)
        have d0 := (hbel.cell (p := ⟨b, _, none⟩) hb).trans c0
        have d1 := (hbel.cell (p := ⟨b, _, none⟩) hb).trans c1
        have d2 := (hbel.cell (p := ⟨b, _, none⟩) hb).trans c2
        have hlen : (rmsOf R l k).length ≤ 65536 := by rw [rmsOf_length]; omega
        have hkn : (k : Int) < (n : Int) := by omega
        clear c0 c1 c2 hc hbel0
        go_wp2_with fail
        go_region_held3 (fun w' => w'.cell? ⟨b, off + k * 3, none⟩ = some (.int .u64 (R k).id) ∧ w'.cell? ⟨b, off + k * 3 + 1, none⟩ = some (.string (R k).addr) ∧ w'.cell? ⟨b, off + k * 3 + 2, none⟩ = some (.int .u64 (R k).idx)) (go_keep)
          (first | (go_at_call 35; refine (f35_any w.heap.size role commit (rmsOf R l k) (R k) _ hlen ?_).mono ?_; exact hR.drew; rintro e w2 ⟨rfl, hR2, hb2⟩; have k0 := hb2.cell (p := ⟨b, off + k * 3, none⟩) hb; have k1 := hb2.cell (p := ⟨b, off + k * 3 + 1, none⟩) hb; have k2 := hb2.cell (p := ⟨b, off + k * 3 + 2, none⟩) hb))
        go_wp2
        go_roundw
        case rel => exact ⟨k + 1, by omega, by omega, by go_num, by rw [rmsOf_succ R l k hlk]; exact hR2, hbel.drew.trans hb2⟩
        case measure => simp [intOf]; omega
    · obtain rfl : k = u := by omega
      go_wp2
      go_ret
      exact ⟨rfl, hR, hbel⟩
end Go.Proofs.Qxb6614540a
