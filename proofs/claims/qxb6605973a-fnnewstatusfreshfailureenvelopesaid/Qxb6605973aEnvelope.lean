/-
  THE SHELL OF A PROOF OF 'Rows.FnNewStatusFreshFailureEnvelopeSaid' ('example.com/coxswain/coxswain/zzlaws_internal_apiserver_b1.FnNewStatusFreshFailureEnvelope'), WRITTEN BY PROGRAM (proof-skeleton.mjs) off the guide's own print for that function. Not trusted: Lean checks it.
-/
import Derived.Test.Qxb6605973aRows
import Derived.Test.Qxb6605973aStat
import Derived.WalkKit
import Derived.OwnWalk
import Derived.LaidEqlPtr
import Derived.ProofKit
import Derived.OpenShut
import Derived.ShutString
namespace Go.Proofs.Qxb6605973a.fnNewStatusFreshFailureEnvelope
open Go.ChangeShapes Go.WideShapes Go.ChangeAt Go.RowKit
open Go.ChangeMaps (open_string shut_string)
set_option linter.unusedVariables false      -- a walk need not use every 'w<i>' (that an integer argument fits its kind)

theorem own : ownKnob Try.prog.godebug = none := by kernel_rfl

theorem info33 : (Try.prog.info? 33).map (fun i => i.size) = some 8 := by kernel_rfl

/-! ### STEP 1: THE WALK: the Go text returns true. 'Grown w w'': the world has at most new blocks (Derived/RowKit3.lean). Part the cases AHEAD of 'go_enter' where a test parts the walk; take each callee by a contract of your own. -/
set_option maxRecDepth 100000 in
set_option maxHeartbeats 1000000 in
theorem walk (a0 : Int) (a1 : ByteArray) (a2 : ByteArray) (a3 : Int) (a4 : ByteArray) (a5 : ByteArray) (w0 : (Lit.int .i64 a0).wf = true) (w1 : a1.size ≤ maxLen) (w2 : a2.size ≤ maxLen) (w3 : (Lit.int .i64 a3).wf = true) (w4 : a4.size ≤ maxLen) (w5 : a5.size ≤ maxLen) (w : World) :
    Calls Try.prog 3 #[.int .i64 a0, .string a1, .string a2, .int .i64 a3, .string a4, .string a5] w fun e w' => e = .returned (.bool true) ∧ Grown w w' := by
  go_enter Try.func3, Try.ntmps3
  go_wp2_with fail
  refine (f6_any a0 a3 a1 a2 a4 a5 _).mono ?_
  rintro e w' ⟨rfl, q, rfl, hq⟩
  cases q with
  | false =>
    go_wp2_with fail
    go_ret
    exact ⟨rfl, Grown.refl _⟩
  | true =>
    have hn := hq rfl
    clear hq
    have k1 : decide ((1048576 : Int) < a1.size) = false := by simp; omega
    have k2 : decide ((1048576 : Int) < a2.size) = false := by simp; omega
    have k4 : decide ((1048576 : Int) < a4.size) = false := by simp; omega
    have k5 : decide ((1048576 : Int) < a5.size) = false := by simp; omega
    have k6 : decide ((1048576 : Int) < (a1.size : Int) + a2.size + a4.size + a5.size) = false := by simp; omega
    go_wp2_with fail
    refine (f7_any a0 a1 a2 _).mono ?_
    rintro e w1 ⟨rfl, k, rfl⟩
    go_wp2_with fail
    refine (f7_any a3 a4 a5 _).mono ?_
    rintro e w2 ⟨rfl, k', hw2⟩
    have hP : ((w'.alloc (.cells (statCells a1 a2 k) 33))).heap.size = w'.heap.size + 1 := by simp
    have st1 : Stat w2 w'.heap.size a1 a2 := ⟨k, by rw [hw2, (MapKept.heap_alloc _ _).2 _ (by rw [hP]; omega)]; exact (MapKept.heap_alloc _ _).1⟩
    have st2 : Stat w2 (w'.heap.size + 1) a4 a5 := ⟨k', by rw [hw2, ← hP]; exact (MapKept.heap_alloc _ _).1⟩
    have hg : Grown w' w2 := by rw [hw2]; exact Grown.alloc (Grown.alloc (Grown.refl _) _ _) _ _
    rw [hP]
    clear hw2 hP
    have c4 : w2.cell? ⟨w'.heap.size, 4, none⟩ = some (.string a2) := st1.cell 4 (by omega)
    have c5 : w2.cell? ⟨w'.heap.size, 5, none⟩ = some (.string a1) := st1.cell 5 (by omega)
    have d4 : w2.cell? ⟨w'.heap.size + 1, 4, none⟩ = some (.string a5) := st2.cell 4 (by omega)
    have d5 : w2.cell? ⟨w'.heap.size + 1, 5, none⟩ = some (.string a4) := st2.cell 5 (by omega)
    have heq : (binOp .eql 23 (.pointer (some ⟨w'.heap.size, 0, none⟩)) (.pointer (some ⟨w'.heap.size + 1, 0, none⟩))).run Try.prog w2 = .ok (.bool false) w2 := by
      obtain ⟨k1, hk1⟩ := st1
      obtain ⟨k2, hk2⟩ := st2
      obtain ⟨i, hi, hz⟩ := Option.map_eq_some_iff.1 info33
      exact run_eql_ptr_other w2 Try.underlying23 hi (by rw [hz]; decide) (by simp) hk1 hk2
    go_wp2_with fail
    refine (f8_any _ a1 a2 _ st1).mono ?_
    rintro e w3 ⟨rfl, rfl⟩
    go_wp2_with fail
    refine (f8_any _ a4 a5 _ st2).mono ?_
    rintro e w3 ⟨rfl, rfl⟩
    go_wp2_with fail
    go_ret
    exact ⟨rfl, hg⟩

/-! ### THE ROW's STEP: WRITTEN OUT: LEAVE IT -/
set_option maxRecDepth 100000 in
theorem lifted (os : Os) (started : os.Started) (H : Type) (enc : TypeId × Value → H) :
    ReturnsInHanded {} Try.checked os 3 .any (Rows.fnNewStatusFreshFailureEnvelopeSpec.pre6 enc Try.prog Try.f3 Rows.fnNewStatusFreshFailureEnvelopeRow.domain false) (Rows.fnNewStatusFreshFailureEnvelopeSpec.post enc Try.prog Try.f3 false true false false) := by
  refine returnsInHanded_of_change (C := Try.checked) own started (by kernel_rfl) Try.func3
    (ChangeSpec.witness6 (enc := enc) (C := Try.checked) false ⟨#[], #[.int .i64 0, .string ByteArray.empty, .string ByteArray.empty, .int .i64 0, .string ByteArray.empty, .string ByteArray.empty], []⟩ 8 (by kernel_rfl) (by kernel_rfl) (by kernel_rfl) (by kernel_rfl)) ?_
  intro W base args ds gs before hval0 hW hcnd _
  have hval : ∀ (j : Nat) t v, Try.f3.params[j]? = some t → args[j]? = some v → Value.okWide Try.prog W .any base t v := hval0
  have hW' := hW
  obtain ⟨p, q, hA0, hV, rfl, hfz, hnd⟩ := hW
  have hA : DataW.TrodAll enc Try.prog W 0 (fun _ => true) true Try.f3.params.toList args.toList ds p := hA0
  rw [Try.params3] at hA hval
  obtain ⟨v0, vs0, d0, ds0, p0, q0, hargs, rfl, rfl, h0, r0⟩ := trodAll_cons hA
  obtain ⟨v1, vs1, d1, ds1, p1, q1, rfl, rfl, rfl, h1, r1⟩ := trodAll_cons r0
  obtain ⟨v2, vs2, d2, ds2, p2, q2, rfl, rfl, rfl, h2, r2⟩ := trodAll_cons r1
  obtain ⟨v3, vs3, d3, ds3, p3, q3, rfl, rfl, rfl, h3, r3⟩ := trodAll_cons r2
  obtain ⟨v4, vs4, d4, ds4, p4, q4, rfl, rfl, rfl, h4, r4⟩ := trodAll_cons r3
  obtain ⟨v5, vs5, d5, ds5, p5, q5, rfl, rfl, rfl, h5, r5⟩ := trodAll_cons r4
  obtain ⟨rfl, rfl, rfl⟩ := trodAll_nil r5
  obtain rfl : args = #[v0, v1, v2, v3, v4, v5] := by cases args; simp_all
  obtain ⟨rfl, rfl⟩ := trodVars_none hV
  obtain ⟨a0, rfl, rfl, rfl, w0⟩ := open_int Try.underlying3 (hval 0 3 v0 rfl rfl) h0
  obtain ⟨a1, rfl, rfl, rfl, w1⟩ := open_string Try.underlying9 (hval 1 9 v1 rfl rfl) h1
  obtain ⟨a2, rfl, rfl, rfl, w2⟩ := open_string Try.underlying9 (hval 2 9 v2 rfl rfl) h2
  obtain ⟨a3, rfl, rfl, rfl, w3⟩ := open_int Try.underlying3 (hval 3 3 v3 rfl rfl) h3
  obtain ⟨a4, rfl, rfl, rfl, w4⟩ := open_string Try.underlying9 (hval 4 9 v4 rfl rfl) h4
  obtain ⟨a5, rfl, rfl, rfl, w5⟩ := open_string Try.underlying9 (hval 5 9 v5 rfl rfl) h5
  clear hA0 hval0
  simp only [List.append_nil] at hW'
  refine (walk a0 a1 a2 a3 a4 a5 w0 w1 w2 w3 w4 w5 W).mono fun e W' ⟨he, hg⟩ => ?_
  subst he
  exact ⟨_, rfl, post_of_same (pa := []) (pv := []) hW' (fun _ _ _ => (trodAll_cons_mk (shut_bool Try.underlying4 _) trodAll_mk0)) (fun sp _ => (trodAll_cons_mk (shut_int Try.underlying3 w0) (trodAll_cons_mk (shut_string Try.underlying9 w1) (trodAll_cons_mk (shut_string Try.underlying9 w2) (trodAll_cons_mk (shut_int Try.underlying3 w3) (trodAll_cons_mk (shut_string Try.underlying9 w4) (trodAll_cons_mk (shut_string Try.underlying9 w5) trodAll_mk0))))))) (fun _ _ => rfl) rfl
    (hg.frame _) hg.2.1 (ok_one (by kernel_rfl) rfl (okWide_bool_mk Try.underlying4 _))⟩

theorem over : Rows.fnNewStatusFreshFailureEnvelopeRow.holds Try.pinned (OpenSpec.ofChange Rows.fnNewStatusFreshFailureEnvelopeSpec) :=
  OpenClaim.holds_of_wide 3 Try.f3 rfl rfl rfl rfl rfl rfl rfl ⟨rfl, rfl, rfl, rfl, rfl⟩ rfl rfl rfl rfl rfl (by kernel_rfl) Try.func3 (by kernel_rfl)
    (of_decide_eq_true (by kernel_rfl)) (by unfold Func.isWrapper; first | (rw [if_pos (by decide +kernel)]; kernel_rfl) | (rw [if_neg (by decide +kernel)]; exact ⟨rfl, rfl⟩))
    (fun os started H enc _ => lifted os started H enc)

/-- ████ THE STATEMENT ████ -/
theorem proved : Rows.FnNewStatusFreshFailureEnvelopeSaid :=
  over
end Go.Proofs.Qxb6605973a.fnNewStatusFreshFailureEnvelope

namespace Go.Proofs.Qxb6605973a
/-- THE STATEMENT. -/
theorem fnNewStatusFreshFailureEnvelope_proved : Rows.FnNewStatusFreshFailureEnvelopeSaid := fnNewStatusFreshFailureEnvelope.over
end Go.Proofs.Qxb6605973a
