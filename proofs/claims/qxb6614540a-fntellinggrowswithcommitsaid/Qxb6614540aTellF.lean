/-
  Small facts for the two laws on telling.
-/
import Derived.Test.Qxb6614540aTellE
namespace Go.Proofs.Qxb6614540a
open Go.RowKit

theorem held68 : Try.prog.stoodInHeld 68 = false := by kernel_rfl
theorem guard68 : Try.prog.eqGuardType Try.prog.depth 68 = false := by kernel_rfl

theorem equal68 (a b : Int) (s t : ByteArray) (w : World) : (Op.equalIn 10000 68 (.agg #[.int .u64 a, .string s]) (.agg #[.int .u64 b, .string t])).run Try.prog w = .ok (a == b && s.toList == t.toList) w := by
  rw [run_equalIn_agg w 9999 68 _ _ (by simp [Program.fieldsOf, Try.underlying68]) held68]
  by_cases h : a = b <;> by_cases h' : s.toList = t.toList <;> simp [Op.eqFields, go_sem, h, h', Try.underlying22, Try.underlying9, Try.underlying68]

/-- '==' between two members. -/
theorem eql68 (a b : Int) (s t : ByteArray) (w : World) : (binOp .eql 68 (.agg #[.int .u64 a, .string s]) (.agg #[.int .u64 b, .string t])).run Try.prog w = .ok (.bool (a == b && s.toList == t.toList)) w := by
  rw [run_eql_struct, equal68]; rfl
theorem neq68 (a b : Int) (s t : ByteArray) (w : World) : (binOp .neq 68 (.agg #[.int .u64 a, .string s]) (.agg #[.int .u64 b, .string t])).run Try.prog w = .ok (.bool (!(a == b && s.toList == t.toList))) w := by
  rw [run_neq_struct, equal68]; rfl

/-! ### Plain lists -/
theorem rmsOf_cut (R : Nat → Rm) (n c : Nat) (h : c ≤ n) : rmsOf R 0 n = rmsOf R 0 c ++ rmsOf R c n := by
  unfold rmsOf
  obtain ⟨d, rfl⟩ := Nat.exists_eq_add_of_le h
  simp only [Nat.sub_zero, Nat.zero_add, Nat.add_sub_cancel_left]
  rw [List.range_add, List.map_append, List.map_map]
  rfl
theorem told_append (role commit : Int) (xs ys : List Rm) : told role commit (xs ++ ys) = told role commit xs ++ told role commit ys := by
  unfold told comm; split <;> simp
theorem told_cut (role commit : Int) (R : Nat → Rm) (n c : Nat) (h : c ≤ n) : told role commit (rmsOf R 0 n) = told role commit (rmsOf R 0 c) ++ told role commit (rmsOf R c n) := by
  rw [rmsOf_cut R n c h, told_append]
theorem rmsOf_one (R : Nat → Rm) (c : Nat) : rmsOf R c (c + 1) = [R c] := by simp [rmsOf]
theorem comm_one_yes {commit : Int} {m : Rm} (h : m.idx ≤ commit) : comm commit [m] = [m] := by simp [comm, h]
theorem comm_one_no {commit : Int} {m : Rm} (h : ¬ m.idx ≤ commit) : comm commit [m] = [] := by simp [comm]; omega
theorem comm_succ_yes {commit : Int} {R : Nat → Rm} {k : Nat} (h : (R k).idx ≤ commit) : (comm commit (rmsOf R 0 (k + 1))).length = (comm commit (rmsOf R 0 k)).length + 1 := by
  rw [rmsOf_succ R 0 k (Nat.zero_le _)]; simp [comm, List.filter_append, h]
theorem comm_succ_no {commit : Int} {R : Nat → Rm} {k : Nat} (h : ¬ (R k).idx ≤ commit) : (comm commit (rmsOf R 0 (k + 1))).length = (comm commit (rmsOf R 0 k)).length := by
  rw [rmsOf_succ R 0 k (Nat.zero_le _)]; simp [comm, List.filter_append, h]
theorem told_le_n (role commit : Int) (R : Nat → Rm) (lo hi : Nat) (h : hi ≤ 65536) : (told role commit (rmsOf R lo hi)).length ≤ 65536 := by
  unfold told
  split
  · have := comm_le commit (rmsOf R lo hi); rw [rmsOf_length] at this; omega
  · simp
end Go.Proofs.Qxb6614540a
