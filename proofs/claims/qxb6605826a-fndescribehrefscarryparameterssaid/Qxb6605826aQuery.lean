/-
  The plain law of the query: pieces joined by '&', and read back piece by piece.
-/
import Derived.Test.Qxb6605826aBytes
import Derived.Lib.Join
import Derived.Lib.Strings
namespace Go.Proofs.Qxb6605826a
open Go.RowKit

/-- Each piece with an '&' behind it. -/
def tens (xs : List (List UInt8)) : List UInt8 := xs.flatMap (· ++ [38])
/-- Where piece k begins. -/
def off (xs : List (List UInt8)) (k : Nat) : Nat := (tens (xs.take k)).length

theorem joinTail_amp : ∀ r : List (List UInt8), Lib.joinTail [38] r ++ [38] = 38 :: tens r
  | [] => rfl
  | y :: r => by
    have ih := joinTail_amp r
    simp only [Lib.joinTail, tens, List.map_cons, List.flatten_cons, List.flatMap_cons, List.append_assoc, List.cons_append, List.nil_append] at ih ⊢
    rw [ih]

theorem join_amp (x : List UInt8) (r : List (List UInt8)) : Lib.join (x :: r) [38] ++ [38] = tens (x :: r) := by
  rw [Lib.join_cons, List.append_assoc, joinTail_amp]
  simp [tens]

theorem off_zero (xs : List (List UInt8)) : off xs 0 = 0 := rfl
theorem off_succ {xs : List (List UInt8)} {k : Nat} {p : List UInt8} (h : xs[k]? = some p) : off xs (k + 1) = off xs k + p.length + 1 := by
  unfold off tens
  rw [List.take_add_one, h]
  simp
  omega
theorem off_mono (xs : List (List UInt8)) (k m : Nat) (h : k ≤ m) : off xs k ≤ off xs m := by
  unfold off tens
  obtain ⟨d, rfl⟩ := Nat.exists_eq_add_of_le h
  rw [List.take_add]
  simp

theorem tens_at {xs : List (List UInt8)} {k : Nat} {p : List UInt8} (h : xs[k]? = some p) : ∃ z, tens xs = tens (xs.take k) ++ ((p ++ [38]) ++ z) := by
  refine ⟨tens (xs.drop (k + 1)), ?_⟩
  obtain ⟨hk, rfl⟩ := List.getElem?_eq_some_iff.1 h
  have e : xs = xs.take k ++ xs[k] :: xs.drop (k + 1) := by rw [← List.drop_eq_getElem_cons hk, List.take_append_drop]
  refine (congrArg tens e).trans ?_
  simp only [tens, List.flatMap_append, List.flatMap_cons]

theorem tens_get {xs : List (List UInt8)} {k : Nat} {p : List UInt8} (h : xs[k]? = some p) {i : Nat} (hi : i ≤ p.length) : (tens xs)[off xs k + i]? = (p ++ [38])[i]? := by
  obtain ⟨z, hz⟩ := tens_at h
  rw [hz, off, List.getElem?_append_right (by omega), show (tens (xs.take k)).length + i - (tens (xs.take k)).length = i by omega, List.getElem?_append_left (by simp; omega)]

theorem query_len {xs : List (List UInt8)} (hne : xs ≠ []) : (Lib.join xs [38]).length + 1 = off xs xs.length := by
  cases xs with
  | nil => exact absurd rfl hne
  | cons x r =>
    have := congrArg List.length (join_amp x r)
    simp only [List.length_append, List.length_cons, List.length_nil] at this
    rw [off, List.take_of_length_le (Nat.le_refl _)]
    simpa using this

theorem query_get {xs : List (List UInt8)} (hne : xs ≠ []) (i : Nat) (hi : i < (Lib.join xs [38]).length) : (Lib.join xs [38])[i]? = (tens xs)[i]? := by
  cases xs with
  | nil => exact absurd rfl hne
  | cons x r => rw [← join_amp x r, List.getElem?_append_left hi]

/-- Piece k lies inside the query; the last one ends with it. -/
theorem piece_in {xs : List (List UInt8)} {k : Nat} {p : List UInt8} (h : xs[k]? = some p) : off xs k + p.length ≤ (Lib.join xs [38]).length := by
  have hk := (List.getElem?_eq_some_iff.1 h).1
  have hne : xs ≠ [] := by rintro rfl; simp at hk
  have h1 := query_len hne
  have h2 := off_succ h
  have h3 := off_mono xs (k + 1) xs.length hk
  omega
theorem piece_byte {xs : List (List UInt8)} {k : Nat} {p : List UInt8} (h : xs[k]? = some p) {i : Nat} (hi : i < p.length) : (Lib.join xs [38])[off xs k + i]? = p[i]? := by
  have hk := (List.getElem?_eq_some_iff.1 h).1
  have hne : xs ≠ [] := by rintro rfl; simp at hk
  have := piece_in h
  rw [query_get hne _ (by omega), tens_get h (by omega), List.getElem?_append_left hi]
theorem piece_end {xs : List (List UInt8)} {k : Nat} {p : List UInt8} (h : xs[k]? = some p) (hlt : off xs k + p.length < (Lib.join xs [38]).length) : (Lib.join xs [38])[off xs k + p.length]? = some 38 := by
  have hk := (List.getElem?_eq_some_iff.1 h).1
  have hne : xs ≠ [] := by rintro rfl; simp at hk
  rw [query_get hne _ hlt, tens_get h (Nat.le_refl _)]
  simp
theorem piece_sub {xs : List (List UInt8)} {k : Nat} {p : List UInt8} (h : xs[k]? = some p) : ((Lib.join xs [38]).drop (off xs k)).take p.length = p := by
  apply List.ext_getElem?
  intro i
  by_cases hi : i < p.length
  · rw [List.getElem?_take_of_lt hi, List.getElem?_drop, piece_byte h hi]
  · rw [List.getElem?_eq_none (by simp; omega), List.getElem?_eq_none (by omega)]

theorem indexOf_app {a r : List UInt8} {c : UInt8} (h : c ∉ a) : indexOf (a ++ c :: r) c = a.length := by
  have : (a ++ c :: r).findIdx? (· == c) = some a.length := by
    rw [List.findIdx?_append, List.findIdx?_eq_none_iff.2 (by intro x hx; simp only [beq_eq_false_iff_ne]; rintro rfl; exact h hx)]
    simp [List.findIdx?_cons]
  simp [indexOf, this]
end Go.Proofs.Qxb6605826a
