/-
  The functions on the road of the two laws on view, said of messages.
-/
import Derived.Test.Qxb6614540aViewF
import Derived.Test.Qxb6614540aViewH
namespace Go.Proofs.Qxb6614540a.V
open Go.RowKit

/-- M holds the cells of a message with the plain fields h and the entries es; 'nil': the list of entries is nil. -/
def IsMsg (w : World) (h : Hd) (M : Array Value) (nil : Bool) (es : List En) : Prop :=
  ∃ ao cap, M = msg h (.slice ao es.length cap) ∧ ao.isNone = nil ∧ EntsAt w (Old w) (Old w) ao es

section
variable {w w' : World} {h : Hd} {M : Array Value} {nil : Bool} {es : List En}
theorem IsMsg.below (hm : IsMsg w h M nil es) (hb : Below w.heap.size w w') : IsMsg w' h M nil es := by
  obtain ⟨ao, cap, hM, hn, hE⟩ := hm
  exact ⟨ao, cap, hM, hn, hE.below hb⟩
theorem IsMsg.size (hm : IsMsg w h M nil es) : M.size = 20 := by
  obtain ⟨ao, cap, rfl, _, _⟩ := hm
  rfl
theorem IsMsg.one (hm : IsMsg w h M nil es) : M.all (·.oneCell') = true := by
  obtain ⟨ao, cap, rfl, _, _⟩ := hm
  exact msg_one h _ rfl
theorem Fits.view (hf : Fits es) : Fits (es.map viewEn) := by
  refine ⟨by simpa using hf.n, fun k e he => ?_, fun k e he => ?_⟩
  · rw [List.getElem?_map] at he
    cases hx : es[k]? with
    | none => simp [hx] at he
    | some x => simp [hx] at he; subst he; exact hf.cmd k x hx
  · rw [List.getElem?_map] at he
    cases hx : es[k]? with
    | none => simp [hx] at he
    | some x => simp [hx] at he; subst he; exact hf.mem k x hx
theorem view_view (es : List En) : (es.map viewEn).map viewEn = es.map viewEn := by simp [viewEn]

theorem c18 (hm : IsMsg w h M nil es) (held : Bool) : Calls Try.prog 18 #[.agg M, .bool held] w fun e w' => AnyBool e ∧ Below w.heap.size w w' := by
  obtain ⟨ao, cap, rfl, _, hE⟩ := hm
  exact f18_any h ao cap es held w hE
theorem c23 (hm : IsMsg w h M nil es) (held again : Bool) : Calls Try.prog 23 #[.agg M, .bool held, .bool again] w fun e w' => AnyBool e ∧ Below w.heap.size w w' := by
  obtain ⟨ao, cap, rfl, _, hE⟩ := hm
  exact f23_any h ao cap es held again w hE
theorem c19 (hm : IsMsg w h M nil es) : Calls Try.prog 19 #[.agg M] w fun e w' => SmallMsg es e ∧ Below w.heap.size w w' := by
  obtain ⟨ao, cap, rfl, _, hE⟩ := hm
  exact f19_any h ao cap es w hE
theorem c20 (hm : IsMsg w h M nil es) (hf : Fits es) : Calls Try.prog 20 #[.agg M] w fun e w' => ∃ M1, e = .returned (.agg M1) ∧ IsMsg w' h M1 nil es ∧ Below w.heap.size w w' := by
  obtain ⟨ao, cap, rfl, hn, hE⟩ := hm
  refine (f20_any h ao cap es w hE hf).mono ?_
  rintro e w1 ⟨ao2, cap2, rfl, hn2, hE2, hb⟩
  exact ⟨_, rfl, ⟨ao2, cap2, rfl, hn2.trans hn, hE2⟩, hb⟩

/-- A view: its own entries and commands in new memory. -/
theorem c21 (hm : IsMsg w h M nil es) (hf : Fits es) (held : Bool) : Calls Try.prog 21 #[.agg M, .bool held] w fun e w' => ∃ ao2 cap2, e = .returned (.agg (msg h (.slice ao2 es.length cap2))) ∧
    IsMsg w' h (msg h (.slice ao2 es.length cap2)) es.isEmpty (es.map viewEn) ∧ ViewEnts w.heap.size w.heap.size w' ao2 (es.map viewEn) ∧ Below w.heap.size w w' := by
  have hs := hm.size
  have ho := hm.one
  obtain ⟨ao, cap, rfl, hn, hE⟩ := hm
  refine (f21_any w.heap.size _ held ao cap es w hs ho rfl hE (Nat.le_refl _) hf).mono ?_
  rintro e w1 ⟨ao2, cap2, rfl, hn2, hV, hb⟩
  refine ⟨ao2, cap2, rfl, ⟨ao2, cap2, by rw [List.length_map], hn2, ?_⟩, hV, hb⟩
  rcases hV with h0 | ⟨g, rfl, hg, hc⟩
  · exact .inl h0
  · refine .inr ⟨g, 0, rfl, hg.lt, fun j e he => ?_⟩
    rw [Nat.zero_add]
    exact (hc j e he).move rfl (fun _ _ => rfl) (fun b hb => hb.1.lt) (fun _ _ => rfl) (fun b hb' => Nat.lt_of_lt_of_le hb' hb.size)

theorem c22 {V : Array Value} (hv : IsMsg w h V es.isEmpty (es.map viewEn)) (hm : IsMsg w h M nil es) (hf : Fits es) : Calls Try.prog 22 #[.agg V, .agg M] w fun e w' => e = .returned (.bool true) ∧ Below w.heap.size w w' := by
  obtain ⟨ao, cap, rfl, hn, hE⟩ := hv
  obtain ⟨ao', cap', rfl, _, hE'⟩ := hm
  rw [List.length_map]
  exact f22_any h ao ao' cap cap' es w hE hE' hn hf
end
end Go.Proofs.Qxb6614540a.V
