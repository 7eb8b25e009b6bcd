/-
  zzBuildIcons: a map from string to string.
-/
import Derived.Test.Qxb6605826aReadable
import Derived.Maps.Own
import Derived.Maps.StringElems
import Derived.BigQuiet
import Derived.RegionTactic
import Derived.Lib.SliceRun
namespace Go.Proofs.Qxb6605826a
open Go.RowKit Go.Maps
attribute [local go_sem] Lib.run_eql_slice_nil

theorem law9 : Keyed Try.prog 9 := string_keyed Try.underlying9
theorem zero9 (w : World) : (zeroValue 9).run Try.prog w = .ok (.string ⟨#[]⟩) w := by kernel_rfl

theorem run_makeMap_hint (n : Int) (w : World) : (Instr.makeMap 31 (some (.int .i64 n))).run Try.prog w = .ok (.map (some w.heap.size)) (w.alloc (.map #[] 0)) := by
  unfold Instr.makeMap
  simp [run_underlying Try.underlying31, asInt]
  rfl

/-- A value that is an icon table. -/
structure IsIcons (B : Nat) (w : World) (mv : Value) : Prop where
  is : mv = .map none ∨ ∃ (b n : Nat) (D : DataW Nat), mv = .map (some b) ∧ B ≤ b ∧ w.ownsMap Try.prog 9 (plainElem Try.prog 9) b n D

set_option maxRecDepth 100000 in
set_option maxHeartbeats 1000000 in
theorem f8_any (ko : Option Addr) (nk kc : Nat) (K : Nat → Ch) (w : World) (hK : PairsAt w ko nk K) (hsz : ∀ i, i < nk → (K i).id.size ≤ maxLen ∧ (K i).label.size ≤ maxLen) (hn : nk ≤ 1048576) :
    Calls Try.prog 8 #[.slice ko nk kc] w fun e w' => ∃ mv, e = .returned mv ∧ IsIcons w.heap.size w' mv ∧ Below w.heap.size w w' := by
  cases ko with
  | none =>
    go_enter Try.func8, Try.ntmps8
    go_wp2_with fail
    go_ret
    exact ⟨_, rfl, ⟨.inl rfl⟩, Below.refl _ _⟩
  | some a =>
    have hmm := run_makeMap_hint
    go_enter Try.func8, Try.ntmps8
    go_wp2_with fail
    go_loopw [4] (fun i wr => ∃ (k n : Nat) (D : DataW Nat), k ≤ nk ∧ n ≤ k ∧ i = .int .i64 k ∧ Hid (wr.ownsMap Try.prog 9 (plainElem Try.prog 9) w.heap.size n D) ∧ Below w.heap.size w wr) (fun i _ => nk - (intOf i).toNat)
    case atStart => exact ⟨0, 0, _, Nat.zero_le _, Nat.le_refl _, rfl, World.ownsMap_made _ _ _ _, (Below.refl _ _).alloc (Nat.le_refl _) _⟩
    case round =>
      rename World => wa
      obtain ⟨k, n, D, hk, hnk, rfl, hown, hbel⟩ := hrel
      by_cases hlt : k < nk
      · have hlt' : (k : Int) < (nk : Int) := by omega
        rcases hK with hz | ⟨b, off, ha, hb, hc⟩
        · omega
        simp only [Option.some.injEq] at ha
        subst ha
        have c0 := (hbel.cell (p := ⟨b, _, none⟩) hb).trans (hc k hlt).1
        have c1 := (hbel.cell (p := ⟨b, _, none⟩) hb).trans (hc k hlt).2
        clear hc
        obtain ⟨z0, z1⟩ := hsz k hlt
        obtain ⟨w1, hrun, hown1, hg1⟩ := hown.out.drew.update law9 Try.underlying31 (by unfold maxLen; omega) (WideMaps.keyOf_string_mk Try.underlying9 z0) (plainElem_string Try.underlying9 z1)
        have HO1 := hide hown1
        have HG1 := hide hg1
        clear hown1 hg1
        go_wp2_with fail
        go_region
        clear hrun
        go_wp2_with fail
        refine ⟨⟨k + 1, n + 1, _, by omega, by omega, by go_num, HO1, ?_⟩, by simp [intOf] <;> omega⟩
        exact hbel.drew.grown HG1.out hbel.size (fun j hj => by cases hj; exact Nat.le_refl _)
      · have hlt' : (nk : Int) ≤ (k : Int) := by omega
        go_wp2_with fail
        go_ret
        exact ⟨_, rfl, ⟨.inr ⟨_, _, _, rfl, Nat.le_refl _, hown.out⟩⟩, hbel⟩

theorem IsIcons.below {B : Nat} {w w' : World} {mv : Value} (h : IsIcons B w mv) (hb : Below w.heap.size w w') : IsIcons B w' mv := by
  rcases h.is with rfl | ⟨b, n, D, rfl, hB, es, clock, hbl, r⟩
  · exact ⟨.inl rfl⟩
  · exact ⟨.inr ⟨b, n, D, rfl, hB, es, clock, (hb.block b (Array.getElem?_eq_some_iff.1 hbl).1).trans hbl, r⟩⟩

theorem look_nil (w : World) (key : ByteArray) : (Instr.lookup 31 (.map none) (.string key) false).run Try.prog w = .ok (.string ⟨#[]⟩) w := by
  have hc : (Instr.checkKey true 10000 9 (.string key)).run Try.prog w = .ok () w := MapKept.run_checkKey (n := 9999) Try.underlying9 (by trivial) true
  unfold Instr.lookup
  simp [run_underlying Try.underlying31, hc, Instr.findKey]
  rw [show Instr.findNow TypeDesc.string (Value.string key) [] 0 = some none from rfl]
  simp

/-- A look-up in an icon table gives a string: the same one as long as the table stands. -/
theorem IsIcons.look {B : Nat} {w : World} {mv : Value} (h : IsIcons B w mv) (key : ByteArray) (hk : key.size ≤ maxLen) : ∃ s : ByteArray, ∀ w' : World, Below w.heap.size w w' → (Instr.lookup 31 mv (.string key) false).run Try.prog w' = .ok (.string s) w' := by
  rcases h.is with rfl | ⟨b, n, D, rfl, _, hown⟩
  · exact ⟨⟨#[]⟩, fun w' _ => look_nil w' key⟩
  · have one : ∀ w' : World, Below w.heap.size w w' → ∃ s : ByteArray, (Instr.lookup 31 (.map (some b)) (.string key) false).run Try.prog w' = .ok (.string s) w' ∧ D.atKey (.string key.data.toList) (.lit (.string [])) = .lit (.string s.data.toList) := fun w' hb => by
      have hown' : w'.ownsMap Try.prog 9 (plainElem Try.prog 9) b n D := by
        obtain ⟨es, clock, hbl, r⟩ := hown
        exact ⟨es, clock, (hb.block b (Array.getElem?_eq_some_iff.1 hbl).1).trans hbl, r⟩
      obtain ⟨v, ps, hrun, hv⟩ := hown'.lookup law9 Try.underlying31 (zero9 w') (plainElem_string Try.underlying9 (s := ⟨#[]⟩) (by decide)) (WideMaps.keyOf_string_mk Try.underlying9 hk)
      obtain ⟨s, rfl, hz, _⟩ := plainElem_string_inv Try.underlying9 hv
      simp only [Prod.mk.injEq] at hz
      exact ⟨s, hrun, hz.1⟩
    obtain ⟨s, _, hs⟩ := one w (Below.refl _ _)
    refine ⟨s, fun w' hb => ?_⟩
    obtain ⟨s', hr, hs'⟩ := one w' hb
    rw [hs] at hs'
    simp only [DataW.lit.injEq, Lit.string.injEq] at hs'
    have : s = s' := by cases s; cases s'; simp_all
    rw [this]; exact hr
end Go.Proofs.Qxb6605826a
