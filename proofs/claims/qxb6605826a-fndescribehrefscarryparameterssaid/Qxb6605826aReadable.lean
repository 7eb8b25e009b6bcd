/-
  The arguments by index functions; zzHrefsReadable.
-/
import Derived.Test.Qxb6605826aBytes
namespace Go.Proofs.Qxb6605826a
open Go.RowKit

/-- A choice; an input. -/
structure Ch where
  id : ByteArray
  label : ByteArray
structure Inp where
  name : ByteArray
  label : ByteArray
  req : Bool

/-- A slice of pairs of strings (icons, choices) in world w. -/
def PairsAt (w : World) (ao : Option Addr) (n : Nat) (C : Nat → Ch) : Prop :=
  n = 0 ∨ ∃ b off, ao = some ⟨b, off, none⟩ ∧ b < w.heap.size ∧ ∀ i, i < n → w.cell? ⟨b, off + i * 2, none⟩ = some (.string (C i).id) ∧ w.cell? ⟨b, off + i * 2 + 1, none⟩ = some (.string (C i).label)
/-- A slice of inputs in world w. -/
def InpsAt (w : World) (ao : Option Addr) (n : Nat) (I : Nat → Inp) : Prop :=
  n = 0 ∨ ∃ b off, ao = some ⟨b, off, none⟩ ∧ b < w.heap.size ∧ ∀ i, i < n → w.cell? ⟨b, off + i * 3, none⟩ = some (.string (I i).name) ∧ w.cell? ⟨b, off + i * 3 + 1, none⟩ = some (.string (I i).label) ∧ w.cell? ⟨b, off + i * 3 + 2, none⟩ = some (.bool (I i).req)

theorem PairsAt.below {w w' : World} {ao : Option Addr} {n : Nat} {C : Nat → Ch} (h : PairsAt w ao n C) (hb : Below w.heap.size w w') : PairsAt w' ao n C := by
  rcases h with h0 | ⟨b, off, ha, hlt, hc⟩
  · exact .inl h0
  · exact .inr ⟨b, off, ha, Nat.lt_of_lt_of_le hlt hb.size, fun i hi => ⟨(hb.cell (p := ⟨b, _, none⟩) hlt).trans (hc i hi).1, (hb.cell (p := ⟨b, _, none⟩) hlt).trans (hc i hi).2⟩⟩
theorem InpsAt.below {w w' : World} {ao : Option Addr} {n : Nat} {I : Nat → Inp} (h : InpsAt w ao n I) (hb : Below w.heap.size w w') : InpsAt w' ao n I := by
  rcases h with h0 | ⟨b, off, ha, hlt, hc⟩
  · exact .inl h0
  · exact .inr ⟨b, off, ha, Nat.lt_of_lt_of_le hlt hb.size, fun i hi => ⟨(hb.cell (p := ⟨b, _, none⟩) hlt).trans (hc i hi).1, (hb.cell (p := ⟨b, _, none⟩) hlt).trans (hc i hi).2.1, (hb.cell (p := ⟨b, _, none⟩) hlt).trans (hc i hi).2.2⟩⟩

/-- No byte that would be read as a mark. -/
def Plain (s : ByteArray) (marks : List UInt8) : Prop := ∀ c ∈ marks, s.data.toList.contains c = false
/-- What zzHrefsReadable asks. -/
structure Readable (id : ByteArray) (nc : Nat) (C : Nat → Ch) (ni : Nat) (I : Nat → Inp) : Prop where
  id : Plain id [63]
  ch : ∀ i, i < nc → Plain (C i).id [38]
  inp : ∀ i, i < ni → Plain (I i).name [38, 61, 123, 125]
/-- An answer that is true only where p. -/
def Only (e : Ending) (p : Prop) : Prop := ∃ q, e = .returned (.bool q) ∧ (q = true → p)
theorem Only.no {p : Prop} : Only (.returned (.bool false)) p := ⟨false, rfl, by simp⟩
theorem Only.yes {p : Prop} (h : p) : Only (.returned (.bool true)) p := ⟨true, rfl, fun _ => h⟩

/-- Every string is small. -/
structure Small (id : ByteArray) (nc : Nat) (C : Nat → Ch) (ni : Nat) (I : Nat → Inp) : Prop where
  id : id.size ≤ 1048576
  ch : ∀ i, i < nc → (C i).id.size ≤ 1048576
  inp : ∀ i, i < ni → (I i).name.size ≤ 1048576

set_option maxRecDepth 100000 in
set_option maxHeartbeats 1000000 in
theorem f6_any (id : ByteArray) (co io : Option Addr) (nc ni cc ic : Nat) (C : Nat → Ch) (I : Nat → Inp) (w : World) (hC : PairsAt w co nc C) (hI : InpsAt w io ni I) (hs : Small id nc C ni I) (hnc : nc ≤ 1048576) (hni : ni ≤ 1048576) :
    Calls Try.prog 6 #[.string id, .slice co nc cc, .slice io ni ic] w fun e w' => w' = w ∧ Only e (Readable id nc C ni I) := by
  have hid := hs.id
  go_enter Try.func6, Try.ntmps6
  go_wp2_with fail
  refine (f11_any id 63 w (by omega)).mono ?_
  rintro e w1 ⟨rfl, rfl⟩
  cases h1 : id.data.toList.contains 63 with
  | true =>
    go_wp2_with fail
    go_ret
    exact ⟨rfl, Only.no⟩
  | false =>
  have g1 : Plain id [63] := by simpa [Plain] using h1
  clear h1
  go_wp2_with fail
  go_loopw [7] (fun i wr => ∃ k : Nat, k ≤ nc ∧ i = .int .i64 k ∧ wr = w1 ∧ Hid (∀ j, j < k → Plain (C j).id [38])) (fun i _ => nc - (intOf i).toNat)
  case atStart => exact ⟨0, Nat.zero_le _, rfl, rfl, fun j hj => by omega⟩
  case round =>
    obtain ⟨k, hk, rfl, rfl, hno⟩ := hrel
    by_cases hlt : k < nc
    · have hlt' : (k : Int) < (nc : Int) := by omega
      rcases hC with h0 | ⟨b, off, rfl, hb, hc⟩
      · omega
      have c0 := (hc k hlt).1
      have hsz := hs.ch k hlt
      clear hc
      go_wp2_with fail
      refine (f11_any (C k).id 38 _ (by omega)).mono ?_
      rintro e w2 ⟨rfl, rfl⟩
      cases h2 : (C k).id.data.toList.contains 38 with
      | true =>
        go_wp2_with fail
        go_ret
        exact ⟨rfl, Only.no⟩
      | false =>
        go_wp2_with fail
        go_roundw
        case rel =>
          refine ⟨k + 1, by omega, by go_num, trivial, fun j hj => ?_⟩
          by_cases h : j < k
          · exact hno.out j h
          · obtain rfl : j = k := by omega
            simpa [Plain] using h2
        case measure => simp [intOf] <;> omega
    · have hlt' : (nc : Int) ≤ (k : Int) := by omega
      obtain rfl : nc = k := by omega
      have hnoC := hno.out
      rename World => w3
      clear hC hno
      have g2 := hide hnoC
      go_wp2_with fail
      go_loopw [8] (fun i wr => ∃ k : Nat, k ≤ ni ∧ i = .int .i64 k ∧ wr = w3 ∧ Hid (∀ j, j < k → Plain (I j).name [38, 61, 123, 125])) (fun i _ => ni - (intOf i).toNat)
      case atStart => exact ⟨0, Nat.zero_le _, rfl, rfl, fun j hj => by omega⟩
      case round =>
        obtain ⟨k, hk, rfl, rfl, hno⟩ := hrel
        by_cases hlt : k < ni
        · have hlt' : (k : Int) < (ni : Int) := by omega
          rcases hI with h0 | ⟨b, off, rfl, hb, hc⟩
          · omega
          have c0 := (hc k hlt).1
          have hsz := hs.inp k hlt
          clear hc
          go_wp2_with fail
          refine (f11_any (I k).name 38 _ (by omega)).mono ?_
          rintro e w4 ⟨rfl, rfl⟩
          cases h38 : (I k).name.data.toList.contains 38 with
          | true =>
            go_wp2_with fail
            go_ret
            exact ⟨rfl, Only.no⟩
          | false =>
          go_wp2_with fail
          refine (f11_any (I k).name 61 _ (by omega)).mono ?_
          rintro e w4 ⟨rfl, rfl⟩
          cases h61 : (I k).name.data.toList.contains 61 with
          | true =>
            go_wp2_with fail
            go_ret
            exact ⟨rfl, Only.no⟩
          | false =>
          go_wp2_with fail
          refine (f11_any (I k).name 123 _ (by omega)).mono ?_
          rintro e w4 ⟨rfl, rfl⟩
          cases h123 : (I k).name.data.toList.contains 123 with
          | true =>
            go_wp2_with fail
            go_ret
            exact ⟨rfl, Only.no⟩
          | false =>
          go_wp2_with fail
          refine (f11_any (I k).name 125 _ (by omega)).mono ?_
          rintro e w4 ⟨rfl, rfl⟩
          cases h125 : (I k).name.data.toList.contains 125 with
          | true =>
            go_wp2_with fail
            go_ret
            exact ⟨rfl, Only.no⟩
          | false =>
          go_wp2_with fail
          go_roundw
          case rel =>
            refine ⟨k + 1, by omega, by go_num, trivial, fun j hj => ?_⟩
            by_cases h : j < k
            · exact hno.out j h
            · obtain rfl : j = k := by omega
              intro c hc
              simp only [List.mem_cons, List.not_mem_nil, or_false] at hc
              rcases hc with rfl | rfl | rfl | rfl
              · exact h38
              · exact h61
              · exact h123
              · exact h125
          case measure => simp [intOf] <;> omega
        · have hlt' : (ni : Int) ≤ (k : Int) := by omega
          obtain rfl : ni = k := by omega
          go_wp2_with fail
          go_ret
          exact ⟨rfl, Only.yes ⟨g1, g2.out, hno.out⟩⟩
end Go.Proofs.Qxb6605826a
