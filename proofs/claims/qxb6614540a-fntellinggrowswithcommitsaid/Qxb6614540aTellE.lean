/-
  telling off a leader; ZZtelling; buildRaft and ZZtelling as the laws use them.
-/
import Derived.Test.Qxb6614540aTellD
namespace Go.Proofs.Qxb6614540a
open Go.RowKit

set_option maxHeartbeats 400000 in
theorem f33_no (p : Nat) (role commit : Int) (xs : List Rm) (w : World) (hr : (role != 2) = true) (h : Raft w p role commit xs) :
    Calls Try.prog 33 #[.pointer (some ⟨p, 0, none⟩)] w fun e w' => e = .returned (.slice none 0 0) ∧ w' = w := by
  obtain ⟨hlt, h42, h46, hfz, ao, cap, h8, hown⟩ := h
  go_enter Try.func33, Try.ntmps33
  go_wp2
  go_ret
  exact ⟨rfl, rfl⟩

set_option maxHeartbeats 400000 in
theorem f26_yes (p : Nat) (commit : Int) (xs : List Rm) (w : World) (hs : xs.length ≤ 65536) (h : Raft w p 2 commit xs) :
    Calls Try.prog 26 #[.pointer (some ⟨p, 0, none⟩)] w fun e w' => ∃ v, e = .returned v ∧ Tells w.heap.size w' v (comm commit xs) ∧ Below w.heap.size w w' := by
  go_enter Try.func26, Try.ntmps26
  go_wp2_with (go_at_call 33; refine (f33_yes p commit xs _ hs h).mono ?_; rintro e w1 ⟨v, rfl, ht, hb⟩)
  go_ret
  exact ⟨_, rfl, ht, hb⟩

set_option maxHeartbeats 400000 in
theorem f26_no (p : Nat) (role commit : Int) (xs : List Rm) (w : World) (hr : (role != 2) = true) (h : Raft w p role commit xs) :
    Calls Try.prog 26 #[.pointer (some ⟨p, 0, none⟩)] w fun e w' => e = .returned (.slice none 0 0) ∧ w' = w := by
  go_enter Try.func26, Try.ntmps26
  go_wp2_with (go_at_call 33; refine (f33_no p role commit xs _ hr h).mono ?_; rintro e w1 ⟨rfl, rfl⟩)
  go_ret
  exact ⟨rfl, rfl⟩

/-- What a law reads of a slice of members. -/
structure TellsAt (w : World) (ao : Option Addr) (ms : List Rm) : Prop where
  cell : ∀ (k : Nat) (m : Rm), ms[k]? = some m → ∃ g, ao = some ⟨g, 0, none⟩ ∧ g < w.heap.size ∧ w.cell? ⟨g, k * 2, none⟩ = some (.int .u64 m.id) ∧ w.cell? ⟨g, k * 2 + 1, none⟩ = some (.string m.addr)

theorem TellsAt.below {w w' : World} {ao : Option Addr} {ms : List Rm} (h : TellsAt w ao ms) (hb : Below w.heap.size w w') : TellsAt w' ao ms := by
  refine ⟨fun k m hk => ?_⟩
  obtain ⟨g, hao, hg, c0, c1⟩ := h.cell k m hk
  exact ⟨g, hao, Nat.lt_of_lt_of_le hg hb.size, (hb.cell (p := ⟨g, _, none⟩) hg).trans c0, (hb.cell (p := ⟨g, _, none⟩) hg).trans c1⟩

theorem Tells.at {w : World} {B n cap : Nat} {ao : Option Addr} {ms : List Rm} (h : w.ownsRow B 68 2 (.slice ao n cap) n (flatM ms)) (hn : n = ms.length) : TellsAt w ao ms := by
  refine ⟨fun k m hk => ?_⟩
  have hkl : k < ms.length := (List.getElem?_eq_some_iff.1 hk).1
  obtain ⟨g, cap', hv, hb, hg⟩ := h.form (by omega)
  cases hv
  obtain ⟨f0, f1⟩ := flatM_at ms k m hk
  have hc := h.cells (g := g) rfl
  have e : ∀ j, (⟨g, 0, none⟩ : Addr).add j = ⟨g, j, none⟩ := fun j => by unfold Addr.add; split <;> simp_all
  exact ⟨g, rfl, hg, by simpa [e] using hc _ _ f0, by simpa [e] using hc _ _ f1⟩

/-- What ZZtelling gives: a slice of L members that reads as ms; nil where the raft is no leader's. -/
def Told (role : Int) (ms : List Rm) (w : World) (v : Value) : Prop :=
  ∃ ao L cap, v = .slice ao L cap ∧ L = ms.length ∧ TellsAt w ao ms ∧ (role ≠ 2 → ao = none ∧ L = 0 ∧ cap = 0)

theorem f26_any (p : Nat) (role commit : Int) (xs : List Rm) (w : World) (hs : xs.length ≤ 65536) (h : Raft w p role commit xs) :
    Calls Try.prog 26 #[.pointer (some ⟨p, 0, none⟩)] w fun e w' => ∃ v, e = .returned v ∧ Told role (told role commit xs) w' v ∧ Below w.heap.size w w' := by
  by_cases hr : role = 2
  · subst hr
    refine (f26_yes p commit xs w hs h).mono ?_
    rintro e w1 ⟨v, rfl, ⟨ao, cap, rfl, hown⟩, hb⟩
    exact ⟨_, rfl, ⟨ao, _, cap, rfl, rfl, Tells.at hown rfl, fun h => absurd rfl h⟩, hb⟩
  · refine (f26_no p role commit xs w (by simpa using hr) h).mono ?_
    rintro e w1 ⟨rfl, rfl⟩
    have : told role commit xs = [] := by simp [told, hr]
    rw [this]
    exact ⟨_, rfl, ⟨none, 0, 0, rfl, rfl, ⟨fun k m hk => by simp at hk⟩, fun _ => ⟨rfl, rfl, rfl⟩⟩, Below.refl _ _⟩
end Go.Proofs.Qxb6614540a
