/-
  zzBytes of the law: true only where every string is small.
-/
import Derived.Test.Qxb6605826aReadable
namespace Go.Proofs.Qxb6605826a
open Go.RowKit

set_option maxRecDepth 100000 in
set_option maxHeartbeats 4000000 in
theorem f4_any (id title desc label : ByteArray) (ko co io : Option Addr) (nk nc ni kc cc ic : Nat) (K C : Nat → Ch) (I : Nat → Inp) (w : World) (hK : PairsAt w ko nk K) (hC : PairsAt w co nc C) (hI : InpsAt w io ni I) :
    Calls Try.prog 4 #[.slice ko nk kc, .string id, .string title, .string desc, .string label, .slice co nc cc, .slice io ni ic] w fun e w' => w' = w ∧ Only e (Small id nc C ni I ∧ nk ≤ 1048576 ∧ nc ≤ 1048576 ∧ ni ≤ 1048576) := by
  by_cases h0 : 1048576 < (nk : Int)
  · go_enter Try.func4, Try.ntmps4
    go_wp2_with fail
    go_ret
    exact ⟨rfl, Only.no⟩
  go_enter Try.func4, Try.ntmps4
  go_wp2_with fail
  go_loopw [15, 16] (fun t i wr => ∃ (k : Nat) (x : Int), k ≤ nk ∧ i = .int .i64 k ∧ t = .int .i64 x ∧ 0 ≤ x ∧ x ≤ 1048576 ∧ wr = w ∧ Hid (∀ j, j < k → (K j).id.size ≤ 1048576)) (fun _ i _ => nk - (intOf i).toNat)
  case atStart => exact ⟨0, _, Nat.zero_le _, rfl, rfl, by omega, by omega, rfl, fun j hj => by omega⟩
  case round =>
    obtain ⟨k, x, hk, rfl, rfl, hx0, hx1, rfl, hno⟩ := hrel
    by_cases hlt : k < nk
    · have hlt' : (k : Int) < (nk : Int) := by omega
      rcases hK with hz | ⟨b, off, rfl, hb, hc⟩
      · omega
      have c0 := (hc k hlt).1
      have c1 := (hc k hlt).2
      clear hc
      by_cases g0 : 1048576 < ((K k).id.size : Int)
      · go_wp2_with fail
        go_ret
        exact ⟨rfl, Only.no⟩
      by_cases g1 : 1048576 < x + ((K k).id.size : Int)
      · go_wp2_with fail
        go_ret
        exact ⟨rfl, Only.no⟩
      by_cases g2 : 1048576 < ((K k).label.size : Int)
      · go_wp2_with fail
        go_ret
        exact ⟨rfl, Only.no⟩
      by_cases g3 : 1048576 < x + ((K k).id.size : Int) + ((K k).label.size : Int)
      · go_wp2_with fail
        go_ret
        exact ⟨rfl, Only.no⟩
      go_wp2_with fail
      go_roundw
      case rel =>
        refine ⟨k + 1, _, by omega, by go_num, rfl, by omega, by omega, trivial, fun j hj => ?_⟩
        by_cases h : j < k
        · exact hno.out j h
        · obtain rfl : j = k := by omega
          omega
      case measure => simp [intOf] <;> omega
    · have hlt' : (nk : Int) ≤ (k : Int) := by omega
      obtain rfl : nk = k := by omega
      rename World => wa
      clear hK hno
      by_cases a0 : 1048576 < (id.size : Int)
      · go_wp2_with fail
        go_ret
        exact ⟨rfl, Only.no⟩
      by_cases b0 : 1048576 < x + (id.size : Int)
      · go_wp2_with fail
        go_ret
        exact ⟨rfl, Only.no⟩
      by_cases a1 : 1048576 < (title.size : Int)
      · go_wp2_with fail
        go_ret
        exact ⟨rfl, Only.no⟩
      by_cases b1 : 1048576 < x + (id.size : Int) + (title.size : Int)
      · go_wp2_with fail
        go_ret
        exact ⟨rfl, Only.no⟩
      by_cases a2 : 1048576 < (desc.size : Int)
      · go_wp2_with fail
        go_ret
        exact ⟨rfl, Only.no⟩
      by_cases b2 : 1048576 < x + (id.size : Int) + (title.size : Int) + (desc.size : Int)
      · go_wp2_with fail
        go_ret
        exact ⟨rfl, Only.no⟩
      by_cases a3 : 1048576 < (label.size : Int)
      · go_wp2_with fail
        go_ret
        exact ⟨rfl, Only.no⟩
      by_cases b3 : 1048576 < x + (id.size : Int) + (title.size : Int) + (desc.size : Int) + (label.size : Int)
      · go_wp2_with fail
        go_ret
        exact ⟨rfl, Only.no⟩
      by_cases a4 : 1048576 < (nc : Int)
      · go_wp2_with fail
        go_ret
        exact ⟨rfl, Only.no⟩
      by_cases b4 : 1048576 < x + (id.size : Int) + (title.size : Int) + (desc.size : Int) + (label.size : Int) + (nc : Int)
      · go_wp2_with fail
        go_ret
        exact ⟨rfl, Only.no⟩
      go_wp2_with fail
      obtain ⟨x2, hx2⟩ : ∃ x2, x2 = x + (id.size : Int) + (title.size : Int) + (desc.size : Int) + (label.size : Int) + (nc : Int) := ⟨_, rfl⟩
      rw [← hx2]
      have hx20 : 0 ≤ x2 := by omega
      have hx21 : x2 ≤ 1048576 := by omega
      clear hx2 b0 b1 b2 b3 b4
      go_loopw [15, 17] (fun t i wr => ∃ (k : Nat) (x : Int), k ≤ nc ∧ i = .int .i64 k ∧ t = .int .i64 x ∧ 0 ≤ x ∧ x ≤ 1048576 ∧ wr = wa ∧ Hid (∀ j, j < k → (C j).id.size ≤ 1048576)) (fun _ i _ => nc - (intOf i).toNat)
      case atStart => exact ⟨0, _, Nat.zero_le _, rfl, rfl, by omega, by omega, rfl, fun j hj => by omega⟩
      case round =>
        obtain ⟨k, x, hk, rfl, rfl, hx0, hx1, rfl, hno⟩ := hrel
        by_cases hlt : k < nc
        · have hlt' : (k : Int) < (nc : Int) := by omega
          rcases hC with hz | ⟨b, off, rfl, hb, hc⟩
          · omega
          have c0 := (hc k hlt).1
          have c1 := (hc k hlt).2
          clear hc
          by_cases g0 : 1048576 < ((C k).id.size : Int)
          · go_wp2_with fail
            go_ret
            exact ⟨rfl, Only.no⟩
          by_cases g1 : 1048576 < x + ((C k).id.size : Int)
          · go_wp2_with fail
            go_ret
            exact ⟨rfl, Only.no⟩
          by_cases g2 : 1048576 < ((C k).label.size : Int)
          · go_wp2_with fail
            go_ret
            exact ⟨rfl, Only.no⟩
          by_cases g3 : 1048576 < x + ((C k).id.size : Int) + ((C k).label.size : Int)
          · go_wp2_with fail
            go_ret
            exact ⟨rfl, Only.no⟩
          go_wp2_with fail
          go_roundw
          case rel =>
            refine ⟨k + 1, _, by omega, by go_num, rfl, by omega, by omega, trivial, fun j hj => ?_⟩
            by_cases h : j < k
            · exact hno.out j h
            · obtain rfl : j = k := by omega
              omega
          case measure => simp [intOf] <;> omega
        · have hlt' : (nc : Int) ≤ (k : Int) := by omega
          obtain rfl : nc = k := by omega
          rename World => wb
          have hCs := hide hno.out
          clear hC hno
          by_cases d0 : 1048576 < (ni : Int)
          · go_wp2_with fail
            go_ret
            exact ⟨rfl, Only.no⟩
          by_cases d1 : 1048576 < x + (ni : Int)
          · go_wp2_with fail
            go_ret
            exact ⟨rfl, Only.no⟩
          go_wp2_with fail
          go_loopw [15, 18] (fun t i wr => ∃ (k : Nat) (x : Int), k ≤ ni ∧ i = .int .i64 k ∧ t = .int .i64 x ∧ 0 ≤ x ∧ x ≤ 1048576 ∧ wr = wb ∧ Hid (∀ j, j < k → (I j).name.size ≤ 1048576)) (fun _ i _ => ni - (intOf i).toNat)
          case atStart => exact ⟨0, _, Nat.zero_le _, rfl, rfl, by omega, by omega, rfl, fun j hj => by omega⟩
          case round =>
            obtain ⟨k, x, hk, rfl, rfl, hx0, hx1, rfl, hno⟩ := hrel
            by_cases hlt : k < ni
            · have hlt' : (k : Int) < (ni : Int) := by omega
              rcases hI with hz | ⟨b, off, rfl, hb, hc⟩
              · omega
              have c0 := (hc k hlt).1
              have c1 := (hc k hlt).2.1
              clear hc
              by_cases g0 : 1048576 < ((I k).name.size : Int)
              · go_wp2_with fail
                go_ret
                exact ⟨rfl, Only.no⟩
              by_cases g1 : 1048576 < x + ((I k).name.size : Int)
              · go_wp2_with fail
                go_ret
                exact ⟨rfl, Only.no⟩
              by_cases g2 : 1048576 < ((I k).label.size : Int)
              · go_wp2_with fail
                go_ret
                exact ⟨rfl, Only.no⟩
              by_cases g3 : 1048576 < x + ((I k).name.size : Int) + ((I k).label.size : Int)
              · go_wp2_with fail
                go_ret
                exact ⟨rfl, Only.no⟩
              go_wp2_with fail
              go_roundw
              case rel =>
                refine ⟨k + 1, _, by omega, by go_num, rfl, by omega, by omega, trivial, fun j hj => ?_⟩
                by_cases h : j < k
                · exact hno.out j h
                · obtain rfl : j = k := by omega
                  omega
              case measure => simp [intOf] <;> omega
            · have hlt' : (ni : Int) ≤ (k : Int) := by omega
              obtain rfl : ni = k := by omega
              rename World => wc
              go_wp2_with fail
              go_ret
              exact ⟨rfl, Only.yes ⟨⟨by omega, hCs.out, hno.out⟩, by omega, by omega, by omega⟩⟩
end Go.Proofs.Qxb6605826a
