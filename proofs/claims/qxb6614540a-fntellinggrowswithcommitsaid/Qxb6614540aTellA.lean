/-
  Walks of the guards 'zzBytes_..' and 'tooBigRemovals' over a slice of removal rows.
-/
import Derived.Test.Qxb6614540aRows
import Derived.WalkKit
import Derived.WalkSpells
import Derived.WalkLawsBesides
namespace Go.Proofs.Qxb6614540a
open Go.RowKit

theorem hide {p : Prop} (h : p) : Hid p := h
theorem unhide {p : Prop} (h : Hid p) : p := h

/-- One removal row in plain fields. -/
structure Rm where
  id : Int
  addr : ByteArray
  idx : Int

/-- What the walk is told of a slice of removal rows that came in. -/
structure RowsAt (w : World) (ao : Option Addr) (n : Nat) (R : Nat → Rm) : Prop where
  small : n ≤ 9223372036854775807
  place : n = 0 ∨ ∃ b off, ao = some ⟨b, off, none⟩ ∧ b < w.heap.size ∧ ∀ k, k < n →
    w.cell? ⟨b, off + k * 3, none⟩ = some (.int .u64 (R k).id) ∧ w.cell? ⟨b, off + k * 3 + 1, none⟩ = some (.string (R k).addr) ∧ w.cell? ⟨b, off + k * 3 + 2, none⟩ = some (.int .u64 (R k).idx)

/-- The call returned some bool. -/
def AnyBool (e : Ending) : Prop := ∃ b : Bool, e = .returned (.bool b)

set_option maxHeartbeats 400000 in
theorem f24_any (role commit : Int) (ao : Option Addr) (n cap : Nat) (R : Nat → Rm) (cut : Int) (w : World) (h : RowsAt w ao n R) :
    Calls Try.prog 24 #[.int .u8 role, .int .u64 commit, .slice ao n cap, .int .i64 cut] w fun e w' => AnyBool e ∧ w' = w := by
  obtain ⟨hn, hp⟩ := h
  rcases hp with rfl | ⟨b, off, rfl, _, hc⟩
  · go_enter Try.func24, Try.ntmps24
    go_wp2
    go_loop [9, 10] (fun t i => i = .int .i64 0) (fun _ _ => 0)
    case atStart => rfl
    case round =>
      subst hrel
      go_wp2
      go_ret
      exact ⟨⟨_, rfl⟩, rfl⟩
  · by_cases hbig : 1048576 < n
    · have hbig' : (1048576 : Int) < n := by omega
      go_enter Try.func24, Try.ntmps24
      go_wp2
      go_ret
      exact ⟨⟨_, rfl⟩, rfl⟩
    · have hbig' : (n : Int) ≤ 1048576 := by omega
      go_enter Try.func24, Try.ntmps24
      go_wp2
      go_loop [9, 10] (fun t i => ∃ (k : Nat) (s : Int), k ≤ n ∧ i = .int .i64 k ∧ t = .int .i64 s) (fun _ i => n - (intOf i).toNat)
      case atStart => exact ⟨0, n, by omega, rfl, rfl⟩
      case round =>
        obtain ⟨k, s, hk, rfl, rfl⟩ := hrel
        by_cases hlt : k < n
        · obtain ⟨_, hc1, _⟩ := hc k hlt
          go_wp2
          · go_ret
            exact ⟨⟨_, rfl⟩, rfl⟩
          · go_ret
            exact ⟨⟨_, rfl⟩, rfl⟩
          · go_round
            case rel => exact ⟨k + 1, _, by omega, by go_num, rfl⟩
            case measure => simp [intOf]; omega
        · go_wp2
          go_ret
          exact ⟨⟨_, rfl⟩, rfl⟩

set_option maxHeartbeats 400000 in
theorem f28_any (role c1 c2 : Int) (ao : Option Addr) (n cap : Nat) (R : Nat → Rm) (w : World) (h : RowsAt w ao n R) :
    Calls Try.prog 28 #[.int .u8 role, .int .u64 c1, .int .u64 c2, .slice ao n cap] w fun e w' => AnyBool e ∧ w' = w := by
  obtain ⟨hn, hp⟩ := h
  rcases hp with rfl | ⟨b, off, rfl, _, hc⟩
  · go_enter Try.func28, Try.ntmps28
    go_wp2
    go_loop [9, 10] (fun t i => i = .int .i64 0) (fun _ _ => 0)
    case atStart => rfl
    case round =>
      subst hrel
      go_wp2
      go_ret
      exact ⟨⟨_, rfl⟩, rfl⟩
  · by_cases hbig : 1048576 < n
    · have hbig' : (1048576 : Int) < n := by omega
      go_enter Try.func28, Try.ntmps28
      go_wp2
      go_ret
      exact ⟨⟨_, rfl⟩, rfl⟩
    · have hbig' : (n : Int) ≤ 1048576 := by omega
      go_enter Try.func28, Try.ntmps28
      go_wp2
      go_loop [9, 10] (fun t i => ∃ (k : Nat) (s : Int), k ≤ n ∧ i = .int .i64 k ∧ t = .int .i64 s) (fun _ i => n - (intOf i).toNat)
      case atStart => exact ⟨0, n, by omega, rfl, rfl⟩
      case round =>
        obtain ⟨k, s, hk, rfl, rfl⟩ := hrel
        by_cases hlt : k < n
        · obtain ⟨_, hc1, _⟩ := hc k hlt
          go_wp2
          · go_ret
            exact ⟨⟨_, rfl⟩, rfl⟩
          · go_ret
            exact ⟨⟨_, rfl⟩, rfl⟩
          · go_round
            case rel => exact ⟨k + 1, _, by omega, by go_num, rfl⟩
            case measure => simp [intOf]; omega
        · go_wp2
          go_ret
          exact ⟨⟨_, rfl⟩, rfl⟩

/-- The call returned some bool; where it is false, n is small. -/
def Small (n : Nat) (e : Ending) : Prop := ∃ b : Bool, e = .returned (.bool b) ∧ (b = false → n ≤ 65536)

set_option maxHeartbeats 400000 in
theorem f25_any (ao : Option Addr) (n cap : Nat) (R : Nat → Rm) (w : World) (h : RowsAt w ao n R) :
    Calls Try.prog 25 #[.slice ao n cap] w fun e w' => Small n e ∧ w' = w := by
  obtain ⟨hn, hp⟩ := h
  rcases hp with rfl | ⟨b, off, rfl, _, hc⟩
  · go_enter Try.func25, Try.ntmps25
    go_wp2
    go_loop [3, 4] (fun t i => i = .int .i64 0) (fun _ _ => 0)
    case atStart => rfl
    case round =>
      subst hrel
      go_wp2
      go_ret
      exact ⟨⟨_, rfl, fun _ => by omega⟩, rfl⟩
  · by_cases hbig : 65536 < n
    · have hbig' : (65536 : Int) < n := by omega
      go_enter Try.func25, Try.ntmps25
      go_wp2
      go_ret
      exact ⟨⟨_, rfl, fun h => by simp at h⟩, rfl⟩
    · have hbig' : (n : Int) ≤ 65536 := by omega
      go_enter Try.func25, Try.ntmps25
      go_wp2
      · go_ret
        exact ⟨⟨_, rfl, fun h => by simp at h⟩, rfl⟩
      go_loop [3, 4] (fun t i => ∃ (k : Nat) (s : Int), k ≤ n ∧ i = .int .i64 k ∧ t = .int .i64 s) (fun _ i => n - (intOf i).toNat)
      case atStart => exact ⟨0, _, by omega, rfl, rfl⟩
      case round =>
        obtain ⟨k, s, hk, rfl, rfl⟩ := hrel
        by_cases hlt : k < n
        · obtain ⟨_, hc1, _⟩ := hc k hlt
          go_wp2
          · go_ret
            exact ⟨⟨_, rfl, fun h => by simp at h⟩, rfl⟩
          · go_ret
            exact ⟨⟨_, rfl, fun h => by simp at h⟩, rfl⟩
          · go_round
            case rel => exact ⟨k + 1, _, by omega, by go_num, rfl⟩
            case measure => simp [intOf]; omega
        · go_wp2
          go_ret
          exact ⟨⟨_, rfl, fun _ => by omega⟩, rfl⟩
end Go.Proofs.Qxb6614540a
