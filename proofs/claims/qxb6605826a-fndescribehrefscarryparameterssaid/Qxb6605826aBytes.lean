/-
  zzHasByte, zzIndexByte.
-/
import Derived.Test.Qxb6605826aRows
import Derived.WalkKit
import Derived.WalkSpells
import Derived.OwnWalk
import Derived.Below
namespace Go.Proofs.Qxb6605826a
open Go.RowKit

theorem hide {p : Prop} (h : p) : Hid p := h

theorem byte_at (s : ByteArray) (k : Nat) (h : k < s.size) : s.data.toList[k]? = some (s[k]'h) := by
  have h' : k < s.data.size := h
  rw [Array.getElem?_toList, Array.getElem?_eq_getElem h']
  rfl

theorem size_toList (s : ByteArray) : s.data.toList.length = s.size := rfl

/-- Where byte c first stands in l: its index, or -1. -/
def indexOf (l : List UInt8) (c : UInt8) : Int := match l.findIdx? (· == c) with | some i => (i : Int) | none => -1

theorem u8_eq {a b : UInt8} (h : a = b) : ((a.toNat : Int) == (b.toNat : Int)) = true := by simp [h]
theorem u8_ne {a b : UInt8} (h : a ≠ b) : ((a.toNat : Int) == (b.toNat : Int)) = false := by
  simp only [beq_eq_false_iff_ne, ne_eq, Int.natCast_inj]
  exact fun e => h (UInt8.toNat_inj.1 e)

theorem no_more {s : ByteArray} {c : UInt8} {k : Nat} (hlt : k < s.size) (hno : ∀ j, j < k → s.data.toList[j]? ≠ some c) (hc : s[k]'hlt ≠ c) : ∀ j, j < k + 1 → s.data.toList[j]? ≠ some c := fun j hj => by
  by_cases h : j < k
  · exact hno j h
  · obtain rfl : j = k := by omega
    rw [byte_at s j hlt]
    simpa using hc

theorem none_of {s : ByteArray} {c : UInt8} (hno : ∀ j, j < s.size → s.data.toList[j]? ≠ some c) : c ∉ s.data.toList := fun h => by
  obtain ⟨j, hj⟩ := List.getElem?_of_mem h
  have := (List.getElem?_eq_some_iff.1 hj).1
  rw [size_toList] at this
  exact hno j this hj

theorem indexOf_at {s : ByteArray} {c : UInt8} {k : Nat} (hlt : k < s.size) (hno : ∀ j, j < k → s.data.toList[j]? ≠ some c) (hc : s[k]'hlt = c) : indexOf s.data.toList c = k := by
  have : s.data.toList.findIdx? (· == c) = some k := by
    rw [List.findIdx?_eq_some_iff_getElem]
    refine ⟨by rw [size_toList]; exact hlt, ?_, fun j hj => ?_⟩
    · have := byte_at s k hlt
      rw [List.getElem?_eq_getElem (by rw [size_toList]; exact hlt)] at this
      simp only [Option.some.injEq] at this
      rw [this, hc]; simp
    · have := hno j hj
      rw [List.getElem?_eq_getElem (by rw [size_toList]; omega)] at this
      simpa using this
  simp [indexOf, this]

theorem indexOf_none {s : ByteArray} {c : UInt8} (hno : c ∉ s.data.toList) : indexOf s.data.toList c = -1 := by
  have : s.data.toList.findIdx? (· == c) = none := by
    rw [List.findIdx?_eq_none_iff]
    intro x hx
    simp only [beq_eq_false_iff_ne]
    rintro rfl
    exact hno hx
  simp [indexOf, this]

set_option maxHeartbeats 1000000 in
theorem f11_any (s : ByteArray) (c : UInt8) (w : World) (hs : s.size ≤ 1099511627776) : Calls Try.prog 11 #[.string s, .int .u8 c.toNat] w fun e w' => e = .returned (.bool (s.data.toList.contains c)) ∧ w' = w := by
  go_enter Try.func11, Try.ntmps11
  go_wp2_with fail
  go_loopw [5] (fun i wr => ∃ k : Nat, k ≤ s.size ∧ i = .int .i64 k ∧ wr = w ∧ Hid (∀ j, j < k → s.data.toList[j]? ≠ some c)) (fun i _ => s.size - (intOf i).toNat)
  case atStart => exact ⟨0, Nat.zero_le _, rfl, rfl, fun j hj => by omega⟩
  case round =>
    obtain ⟨k, hk, rfl, rfl, hno⟩ := hrel
    by_cases hlt : k < s.size
    · have hlt' : (k : Int) < (s.size : Int) := by omega
      by_cases hc : s[k]'hlt = c
      · have kc := u8_eq hc
        go_wp2_with fail
        go_ret
        refine ⟨?_, rfl⟩
        have : c ∈ s.data.toList := List.mem_of_getElem? ((byte_at s k hlt).trans (by rw [hc]))
        simp [this]
      · have kc := u8_ne hc
        go_wp2_with fail
        go_roundw
        case rel => exact ⟨k + 1, by omega, by go_num, trivial, no_more hlt hno.out hc⟩
        case measure => simp [intOf] <;> omega
    · have hlt' : (s.size : Int) ≤ (k : Int) := by omega
      obtain rfl : s.size = k := by omega
      go_wp2_with fail
      go_ret
      refine ⟨?_, rfl⟩
      have := none_of hno.out
      simp [this]

set_option maxHeartbeats 1000000 in
theorem f13_any (s : ByteArray) (c : UInt8) (w : World) (hs : s.size ≤ 1099511627776) : Calls Try.prog 13 #[.string s, .int .u8 c.toNat] w fun e w' => e = .returned (.int .i64 (indexOf s.data.toList c)) ∧ w' = w := by
  go_enter Try.func13, Try.ntmps13
  go_wp2_with fail
  go_loopw [5] (fun i wr => ∃ k : Nat, k ≤ s.size ∧ i = .int .i64 k ∧ wr = w ∧ Hid (∀ j, j < k → s.data.toList[j]? ≠ some c)) (fun i _ => s.size - (intOf i).toNat)
  case atStart => exact ⟨0, Nat.zero_le _, rfl, rfl, fun j hj => by omega⟩
  case round =>
    obtain ⟨k, hk, rfl, rfl, hno⟩ := hrel
    by_cases hlt : k < s.size
    · have hlt' : (k : Int) < (s.size : Int) := by omega
      by_cases hc : s[k]'hlt = c
      · have kc := u8_eq hc
        go_wp2_with fail
        go_ret
        refine ⟨?_, rfl⟩
        rw [indexOf_at hlt hno.out hc]
        rfl
      · have kc := u8_ne hc
        go_wp2_with fail
        go_roundw
        case rel => exact ⟨k + 1, by omega, by go_num, trivial, no_more hlt hno.out hc⟩
        case measure => simp [intOf] <;> omega
    · have hlt' : (s.size : Int) ≤ (k : Int) := by omega
      obtain rfl : s.size = k := by omega
      go_wp2_with fail
      go_ret
      refine ⟨?_, rfl⟩
      rw [indexOf_none (none_of hno.out)]
      rfl
end Go.Proofs.Qxb6605826a
