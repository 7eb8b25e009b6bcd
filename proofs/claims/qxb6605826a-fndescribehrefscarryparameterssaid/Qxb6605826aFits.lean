/-
  zzDescribeFits: true only where the slices are short.
-/
import Derived.Test.Qxb6605826aReadable
import Derived.BigQuiet
import Derived.Deep.QuietTactic
namespace Go.Proofs.Qxb6605826a
open Go.RowKit

theorem below_drewN {B : Nat} {w w' : World} (h : Below B w w') (q : Nat) : Below B w (w'.drewN q) := ⟨h.os, h.tape, h.output, h.size, h.block⟩

set_option maxRecDepth 100000 in
set_option maxHeartbeats 4000000 in
theorem f5_any (id title desc label : ByteArray) (ko co io : Option Addr) (nk nc ni kc cc ic : Nat) (K C : Nat → Ch) (I : Nat → Inp) (w : World) (hK : PairsAt w ko nk K) (hC : PairsAt w co nc C) (hI : InpsAt w io ni I) :
    Calls Try.prog 5 #[.slice ko nk kc, .string id, .string title, .string desc, .string label, .slice co nc cc, .slice io ni ic] w fun e w' => Below w.heap.size w w' ∧ Only e (nk ≤ 65536 ∧ nc ≤ 4096 ∧ ni ≤ 4096) := by
  by_cases h0 : 65536 < nk
  · have k0 : decide ((65536 : Int) < nk) = true := by simp; omega
    go_enter Try.func5, Try.ntmps5
    go_wp2_with fail
    go_ret
    exact ⟨Below.refl _ _, Only.no⟩
  have k0 : decide ((65536 : Int) < nk) = false := by simp; omega
  by_cases h1 : 4096 < nc
  · have k1 : decide ((4096 : Int) < nc) = true := by simp; omega
    go_enter Try.func5, Try.ntmps5
    go_wp2_with fail
    go_ret
    exact ⟨Below.refl _ _, Only.no⟩
  have k1 : decide ((4096 : Int) < nc) = false := by simp; omega
  by_cases h2 : 4096 < ni
  · have k2 : decide ((4096 : Int) < ni) = true := by simp; omega
    go_enter Try.func5, Try.ntmps5
    go_wp2_with fail
    go_ret
    exact ⟨Below.refl _ _, Only.no⟩
  have k2 : decide ((4096 : Int) < ni) = false := by simp; omega
  go_enter Try.func5, Try.ntmps5
  go_wp2_with fail
  go_loopw [15, 16] (fun t i wr => ∃ (k : Nat) (x0 : Int), k ≤ nk ∧ i = .int .i64 k ∧ t = .int .i64 x0 ∧ Below w.heap.size w wr) (fun _ i _ => nk - (intOf i).toNat)
  case atStart => exact ⟨0, _, Nat.zero_le _, rfl, rfl, Below.refl _ _⟩
  case round =>
    rename World => wa
    obtain ⟨k, x0, hk, rfl, rfl, hbel⟩ := hrel
    by_cases hlt : k < nk
    · have hlt' : (k : Int) < (nk : Int) := by omega
      rcases hK with hz | ⟨b, off, rfl, hb, hc⟩
      · omega
      have c0 := (hbel.cell (p := ⟨b, _, none⟩) hb).trans (hc k hlt).1
      have c1 := (hbel.cell (p := ⟨b, _, none⟩) hb).trans (hc k hlt).2
      clear hc
      go_wp2_with fail
      go_quiet (fail)
      go_wp2_with fail
      go_roundw
      case rel => exact ⟨k + 1, _, by omega, by go_num, rfl, below_drewN hbel _⟩
      case measure => simp [intOf] <;> omega
    · have hlt' : (nk : Int) ≤ (k : Int) := by omega
      obtain rfl : nk = k := by omega
      go_wp2_with fail
      go_loopw [15, 17] (fun t i wr => ∃ (k : Nat) (x0 : Int), k ≤ nc ∧ i = .int .i64 k ∧ t = .int .i64 x0 ∧ Below w.heap.size w wr) (fun _ i _ => nc - (intOf i).toNat)
      case atStart => exact ⟨0, _, Nat.zero_le _, rfl, rfl, hbel⟩
      case round =>
        rename World => wb
        obtain ⟨k, x0, hk, rfl, rfl, hbel⟩ := hrel
        by_cases hlt : k < nc
        · have hlt' : (k : Int) < (nc : Int) := by omega
          rcases hC with hz | ⟨b, off, rfl, hb, hc⟩
          · omega
          have c0 := (hbel.cell (p := ⟨b, _, none⟩) hb).trans (hc k hlt).1
          have c1 := (hbel.cell (p := ⟨b, _, none⟩) hb).trans (hc k hlt).2
          clear hc
          go_wp2_with fail
          go_quiet (fail)
          go_wp2_with fail
          go_roundw
          case rel => exact ⟨k + 1, _, by omega, by go_num, rfl, below_drewN hbel _⟩
          case measure => simp [intOf] <;> omega
        · have hlt' : (nc : Int) ≤ (k : Int) := by omega
          obtain rfl : nc = k := by omega
          go_wp2_with fail
          go_loopw [15, 18, 19] (fun t u i wr => ∃ (k : Nat) (x0 x1 : Int), k ≤ ni ∧ i = .int .i64 k ∧ t = .int .i64 x0 ∧ u = .int .i64 x1 ∧ Below w.heap.size w wr) (fun _ _ i _ => ni - (intOf i).toNat)
          case atStart => exact ⟨0, _, _, Nat.zero_le _, rfl, rfl, rfl, hbel⟩
          case round =>
            rename World => wc
            obtain ⟨k, x0, x1, hk, rfl, rfl, rfl, hbel⟩ := hrel
            by_cases hlt : k < ni
            · have hlt' : (k : Int) < (ni : Int) := by omega
              rcases hI with hz | ⟨b, off, rfl, hb, hc⟩
              · omega
              have c0 := (hbel.cell (p := ⟨b, _, none⟩) hb).trans (hc k hlt).1
              have c1 := (hbel.cell (p := ⟨b, _, none⟩) hb).trans (hc k hlt).2.1
              clear hc
              go_wp2_with fail
              go_quiet (fail)
              go_wp2_with fail
              go_roundw
              case rel => exact ⟨k + 1, _, _, by omega, by go_num, rfl, rfl, below_drewN hbel _⟩
              case measure => simp [intOf] <;> omega
            · have hlt' : (ni : Int) ≤ (k : Int) := by omega
              obtain rfl : ni = k := by omega
              go_wp2_with fail
              all_goals go_ret
              all_goals first | exact ⟨hbel, Only.no⟩ | exact ⟨hbel, Only.yes ⟨by omega, by omega, by omega⟩⟩
end Go.Proofs.Qxb6605826a
