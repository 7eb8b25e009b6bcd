/-
  copyBytes, clone, sameBytes.
-/
import Derived.Test.Qxb6614540aViewA
import Derived.Laws.AppendOwnNone
namespace Go.Proofs.Qxb6614540a.V
open Go.RowKit
attribute [local go_sem] Lib.run_eql_slice_nil

/-- The blocks from B on that may be written. -/
structure New (B : Nat) (w : World) (b : Nat) : Prop where
  ge : B ≤ b
  lt : b < w.heap.size
  fz : ∀ j, w.frozen? ⟨b, j, none⟩ = false

theorem BytesAt.nil_len {w : World} {S : Nat → Prop} {bs : List Int} (h : BytesAt w S none bs) : bs = [] := by
  rcases h with h | ⟨b, off, h, _⟩
  · exact h
  · cases h

theorem info5 : (Try.prog.info? 5).map (fun i => (i.zero, i.size, i.bytes)) = some (some (.int .u8 0), 1, 1) := by kernel_rfl

/-- What copyBytes answers. -/
def Copied (w : World) (ao : Option Addr) (bs : List Int) (e : Ending) (w' : World) : Prop :=
  ∃ ao' cap', e = .returned (.slice ao' bs.length cap') ∧ ao'.isNone = ao.isNone ∧ BytesAt w' (New w.heap.size w') ao' bs ∧ Below w.heap.size w w'

theorem bytes_of_row {w : World} {B g n cap : Nat} {bs : List Int} {xs : List Value} (h : w.ownsRow B 5 1 (.slice (some ⟨g, 0, none⟩) n cap) n xs) (hn : n = bs.length) (hx : ∀ (j : Nat) (x : Int), bs[j]? = some x → xs[j]? = some (.int .u8 x)) :
    BytesAt w (New B w) (some ⟨g, 0, none⟩) bs := by
  have hl := h.lt g rfl
  refine .inr ⟨g, 0, rfl, ⟨hl.1, hl.2, h.frozenAt⟩, fun k x hk => ?_⟩
  rw [Nat.zero_add, h.cellAt k (by have := (List.getElem?_eq_some_iff.1 hk).1; omega)]
  exact hx k x hk

theorem copy_step {bs : List Int} {xs : List Value} {k : Nat} {x : Int} (h : ∀ (j : Nat) (x : Int), j < k → bs[j]? = some x → xs[j]? = some (.int .u8 x)) (hx : bs[k]? = some x) (hk : k < xs.length) :
    ∀ (j : Nat) (y : Int), j < k + 1 → bs[j]? = some y → (xs.set k (.int .u8 x))[j]? = some (.int .u8 y) := by
  intro j y hj hy
  by_cases e : j = k
  · subst e
    rw [hx] at hy
    cases hy
    simp [hk]
  · rw [List.getElem?_set_ne (by omega)]
    exact h j y (by omega) hy

set_option maxRecDepth 100000 in
set_option maxHeartbeats 400000 in
theorem f30_any (ao : Option Addr) (cap : Nat) (bs : List Int) (w : World) (h : BytesAt w (Old w) ao bs) (hs : bs.length ≤ 1048576) :
    Calls Try.prog 30 #[.slice ao bs.length cap] w fun e w' => Copied w ao bs e w' := by
  cases ao with
  | none =>
    obtain rfl := h.nil_len
    go_enter Try.func30, Try.ntmps30
    go_wp2
    go_ret
    exact ⟨none, 0, rfl, rfl, .inl rfl, Below.refl _ _⟩
  | some a =>
    obtain ⟨i0, hi, hz0, hz1, hz2⟩ := info_parts info5
    go_enter Try.func30, Try.ntmps30
    go_wp2_with (refine wpList_make_full _ rfl (.tmp 8) (.tmp 8) 53 rfl w.heap.size 5 i0 _ 1 Try.underlying53 hi hz0 hz1 .i64 .i64 _ _ bs.length rfl rfl rfl rfl ?c1 ?c2 (Nat.le_refl _) ?_)
    case c1 => rw [hz2]; omega
    case c2 => unfold maxLen; omega
    intro w1 hown hgrow
    have hb1 : Below w.heap.size w w1 := (Below.refl _ _).grown hgrow (Nat.le_refl _) (fun k hk => by cases hk)
    clear hgrow
    go_wp2_with fail
    go_loopw [4] (fun i wr => ∃ (k : Nat) (xs : List Value), k ≤ bs.length ∧ i = .int .i64 k ∧ wr.ownsRow w.heap.size 5 1 (.slice (some ⟨w.heap.size, 0, none⟩) bs.length bs.length) bs.length xs ∧ Hid (∀ (j : Nat) (x : Int), j < k → bs[j]? = some x → xs[j]? = some (.int .u8 x)) ∧ Below w.heap.size w wr)
      (fun i _ => bs.length - (intOf i).toNat)
    case atStart => exact ⟨0, _, Nat.zero_le _, rfl, hown, fun j x hj _ => by omega, hb1⟩
    case round =>
      obtain ⟨k, xs, hk, rfl, hownr, hxs, hbel⟩ := hrel
      by_cases hlt : k < bs.length
      · rcases h with h | ⟨b, off, ha, hb, hc⟩
        · rw [h] at hlt; simp at hlt
        · cases ha
          have c0 := (hbel.cell (p := ⟨b, _, none⟩) hb).trans (hc k bs[k] (List.getElem?_eq_getElem hlt))
          have hxl : k < xs.length := by have := hownr.1; omega
          have c1 := (hownr.cellAt k (by omega)).trans (List.getElem?_eq_getElem hxl)
          have f1 := hownr.frozenAt k
          have hlt' : (k : Int) < (bs.length : Int) := by omega
          have HE := hide (List.getElem?_eq_getElem hlt)
          generalize bs[k] = x at c0 HE
          have st := hownr.stored k (.int .u8 x)
          have hb2 : Below w.heap.size w (wr.setCell ⟨w.heap.size, k, none⟩ (.int .u8 x)) := hbel.setCell (p := ⟨w.heap.size, k, none⟩) (Nat.le_refl _) _
          have HS := hide st.1
          generalize xs[k] = y at c1
          clear st hc
          go_wp2_with fail
          go_roundw
          case rel => exact ⟨k + 1, _, by omega, by go_num, HS.out, copy_step hxs.out HE.out hxl, hb2⟩
          case measure => simp [intOf]; omega
      · obtain rfl : k = bs.length := by omega
        go_wp2_with fail
        go_ret
        exact ⟨_, _, rfl, rfl, bytes_of_row hownr rfl (fun j x hj => hxs.out j x (List.getElem?_eq_some_iff.1 hj).1 hj), hbel⟩

/-- What clone answers. -/
def Cloned (w : World) (bs : List Int) (e : Ending) (w' : World) : Prop :=
  ∃ ao' cap', e = .returned (.slice ao' bs.length cap') ∧ ao'.isNone = bs.isEmpty ∧ BytesAt w' (New w.heap.size w') ao' bs ∧ Below w.heap.size w w'

theorem cloned_of {w w' : World} {bs : List Int} {v : Value} (hown : w'.ownsRow w.heap.size 5 1 v bs.length (bs.map (Value.int .u8))) (hg : w.grownBy w' none) (hn : v = .slice none 0 0 ↔ bs.length = 0) : Cloned w bs (.returned v) w' := by
  have hb : Below w.heap.size w w' := (Below.refl _ _).grown hg (Nat.le_refl _) (fun k hk => by cases hk)
  rcases hown.2 with ⟨rfl, h0⟩ | ⟨g, cap, cur, rfl, hbg, hrest⟩
  · have : bs = [] := List.eq_nil_of_length_eq_zero h0
    subst this
    exact ⟨none, 0, rfl, rfl, .inl rfl, hb⟩
  · refine ⟨some ⟨g, 0, none⟩, cap, rfl, ?_, ?_, hb⟩
    · cases bs with
      | nil => simp at hn
      | cons x xs => rfl
    · exact bytes_of_row hown rfl (fun j x hj => by simp [hj])

set_option maxRecDepth 100000 in
set_option maxHeartbeats 400000 in
theorem f37_any (ao : Option Addr) (cap : Nat) (bs : List Int) (w : World) (h : BytesAt w (Old w) ao bs) (hs : bs.length ≤ 1048576) :
    Calls Try.prog 37 #[.slice ao bs.length cap] w fun e w' => Cloned w bs e w' := by
  obtain ⟨i0, hi, hz0, hz1, hz2⟩ := info_parts info5
  cases ao with
  | none =>
    obtain rfl := h.nil_len
    go_enter Try.func37, Try.ntmps37
    go_wp2
    go_ret
    exact ⟨none, _, rfl, rfl, .inl rfl, Below.refl _ _⟩
  | some a =>
    go_enter Try.func37, Try.ntmps37
    go_wp2_with (at_builtin; refine wpList_append_own _ rfl (.const (.slice none 0 0)) (.tmp 3) 53 rfl w.heap.size 5 i0 (.int .u8 0) 1 1 Try.underlying53 hi hz0 hz1 hz2 rfl (by decide) (.slice none 0 0) 0 [] rfl (World.ownsRow_nil _ _ _ _) a bs.length cap (bs.map (Value.int .u8)) rfl ?c0 ?c1 ?c2 ?c3 ?c4 (Nat.le_refl _) ?_)
    case c0 => simp
    case c1 =>
      intro j u hj
      rcases h with rfl | ⟨b, off, ha, _, hc⟩
      · simp at hj
      · cases ha
        rw [List.getElem?_map] at hj
        cases hx : bs[j]? with
        | none => simp [hx] at hj
        | some x =>
          simp [hx] at hj
          subst hj
          have := hc j x hx
          unfold Addr.add
          split
          · rename_i h0; subst h0; simpa using this
          · simpa using this
    case c2 => intro u hu; simp at hu; obtain ⟨x, _, rfl⟩ := hu; rfl
    case c3 => unfold maxLen; omega
    case c4 => omega
    intro v' w1 hown hg hn
    replace hn : v' = .slice none 0 0 ↔ bs.length = 0 := by simpa using hn
    go_wp2
    go_ret
    exact cloned_of hown hg hn

set_option maxRecDepth 100000 in
set_option maxHeartbeats 400000 in
theorem f32_any (ao : Option Addr) (cap : Nat) (ao' : Option Addr) (cap' : Nat) (bs : List Int) (w : World) (h : BytesAt w (Old w) ao bs) (h' : BytesAt w (Old w) ao' bs) (hs : bs.length ≤ 1048576) :
    Calls Try.prog 32 #[.slice ao bs.length cap, .slice ao' bs.length cap'] w fun e w' => e = .returned (.bool true) ∧ ∃ q, w' = w.drewN q := by
  go_enter Try.func32, Try.ntmps32
  go_wp2_with fail
  go_loopw [5] (fun i wr => ∃ k q : Nat, k ≤ bs.length ∧ i = .int .i64 k ∧ wr = w.drewN q) (fun i _ => bs.length - (intOf i).toNat)
  case atStart => exact ⟨0, 0, Nat.zero_le _, rfl, rfl⟩
  case round =>
    obtain ⟨k, q, hk, rfl, rfl⟩ := hrel
    by_cases hlt : k < bs.length
    · rcases h with h | ⟨b, off, rfl, _, hc⟩
      · rw [h] at hlt; simp at hlt
      rcases h' with h | ⟨b', off', rfl, _, hc'⟩
      · rw [h] at hlt; simp at hlt
      have c0 := hc k bs[k] (List.getElem?_eq_getElem hlt)
      have c1 := hc' k bs[k] (List.getElem?_eq_getElem hlt)
      generalize bs[k] = x at c0 c1
      have hlt' : (k : Int) < (bs.length : Int) := by omega
      clear hc hc'
      go_wp2_with fail
      go_quiet (fail)
      go_wp2_with fail
      go_roundw
      case rel => exact ⟨k + 1, _, by omega, by go_num, rfl⟩
      case measure => simp [intOf]; omega
    · go_wp2_with fail
      go_ret
      exact ⟨rfl, q, rfl⟩
end Go.Proofs.Qxb6614540a.V
