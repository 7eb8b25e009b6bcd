/-
  The law FnTellingGrowsWithCommit, walked.
-/
import Derived.Test.Qxb6614540aTellF
import Derived.Deep.DeepCutAuto
namespace Go.Proofs.Qxb6614540a
open Go.RowKit

/-! ### Plain lists -/
/-- The removals that become committed between lo and hi. -/
def newl (lo hi : Int) (xs : List Rm) : List Rm := xs.filter fun m => decide (lo < m.idx) && decide (m.idx ≤ hi)
theorem newl_le (lo hi : Int) (xs : List Rm) : (newl lo hi xs).length ≤ xs.length := List.length_filter_le _ _
theorem newl_yes {lo hi : Int} {R : Nat → Rm} {k : Nat} (h1 : lo < (R k).idx) (h2 : (R k).idx ≤ hi) : (newl lo hi (rmsOf R 0 (k + 1))).length = (newl lo hi (rmsOf R 0 k)).length + 1 := by
  rw [rmsOf_succ R 0 k (Nat.zero_le _)]; simp [newl, List.filter_append, h1, h2]
theorem newl_no {lo hi : Int} {R : Nat → Rm} {k : Nat} (h : ¬ (lo < (R k).idx ∧ (R k).idx ≤ hi)) : (newl lo hi (rmsOf R 0 (k + 1))).length = (newl lo hi (rmsOf R 0 k)).length := by
  rw [rmsOf_succ R 0 k (Nat.zero_le _)]
  unfold newl
  rw [List.filter_append, List.length_append]
  have : (decide (lo < (R k).idx) && decide ((R k).idx ≤ hi)) = false := by
    rw [Bool.eq_false_iff]; intro hh; simp at hh; exact h hh
  simp [this]
theorem comm_newl {lo hi : Int} (h : lo ≤ hi) (xs : List Rm) : (comm hi xs).length = (comm lo xs).length + (newl lo hi xs).length := by
  induction xs with
  | nil => rfl
  | cons m xs ih =>
    unfold comm newl at *
    by_cases h1 : m.idx ≤ lo
    · have h2 : m.idx ≤ hi := by omega
      have h3 : ¬ lo < m.idx := by omega
      simp [h1, h2, h3]; simpa using (by omega : _ + 1 = _ + 1 + _)
    · by_cases h2 : m.idx ≤ hi
      · have h3 : lo < m.idx := by omega
        simp [h1, h2, h3]; simpa using (by omega : _ + 1 = _ + (_ + 1))
      · simp [h1, h2]; simpa using ih

/-- What '==' looks at of a member. -/
def key (m : Rm) : Int × List UInt8 := (m.id, m.addr.toList)
def keys (xs : List Rm) : List (Int × List UInt8) := xs.map key
theorem comm_sub {lo hi : Int} (h : lo ≤ hi) (xs : List Rm) : (keys (comm lo xs)).Sublist (keys (comm hi xs)) := by
  unfold keys comm
  refine List.Sublist.map _ ?_
  induction xs with
  | nil => exact List.Sublist.refl _
  | cons m xs ih =>
    by_cases h1 : m.idx ≤ lo
    · have h2 : m.idx ≤ hi := by omega
      simp [h1, h2, ih]
    · by_cases h2 : m.idx ≤ hi
      · simp [h1, h2]; exact ih.cons _
      · simp [h1, h2, ih]
theorem sub_hit {a : Int × List UInt8} {xs ys : List (Int × List UInt8)} {i k : Nat} (hx : xs[i]? = some a) (hy : ys[k]? = some a) (h : (ys.drop k).Sublist (xs.drop i)) : (ys.drop (k + 1)).Sublist (xs.drop (i + 1)) := by
  obtain ⟨hi, rfl⟩ := List.getElem?_eq_some_iff.1 hx
  obtain ⟨hk, e⟩ := List.getElem?_eq_some_iff.1 hy
  rw [List.drop_eq_getElem_cons hi, List.drop_eq_getElem_cons hk, e] at h
  exact List.cons_sublist_cons.1 h
theorem sub_skip {a b : Int × List UInt8} {l l' : List (Int × List UInt8)} (hab : a ≠ b) (h : (b :: l).Sublist (a :: l')) : (b :: l).Sublist l' := by
  cases h with
  | cons _ h => exact h
  | cons_cons _ h => exact absurd rfl hab
theorem sub_miss {a b : Int × List UInt8} {xs ys : List (Int × List UInt8)} {i k : Nat} (hx : xs[i]? = some a) (hy : ys[k]? = some b) (hab : a ≠ b) (h : (ys.drop k).Sublist (xs.drop i)) : (ys.drop k).Sublist (xs.drop (i + 1)) := by
  obtain ⟨hi, rfl⟩ := List.getElem?_eq_some_iff.1 hx
  obtain ⟨hk, rfl⟩ := List.getElem?_eq_some_iff.1 hy
  rw [List.drop_eq_getElem_cons hi, List.drop_eq_getElem_cons hk] at h
  rw [List.drop_eq_getElem_cons hk]
  exact sub_skip hab h
theorem sub_end {xs ys : List (Int × List UInt8)} {i k : Nat} (hi : xs.length ≤ i) (h : (ys.drop k).Sublist (xs.drop i)) : ys.length ≤ k := by
  rw [List.drop_of_length_le hi] at h
  have := List.sublist_nil.1 h
  simpa using this
theorem keys_length (xs : List Rm) : (keys xs).length = xs.length := by simp [keys]
theorem keys_at {xs : List Rm} {k : Nat} {m : Rm} (h : xs[k]? = some m) : (keys xs)[k]? = some (key m) := by simp [keys, h]

theorem told_yes (commit : Int) (xs : List Rm) : told 2 commit xs = comm commit xs := by simp [told]

set_option maxRecDepth 100000 in
set_option maxHeartbeats 1000000 in
theorem law8 (role d1 d2 : Int) (ao : Option Addr) (n cap : Nat) (R : Nat → Rm) (w : World) (h : RowsAt w ao n R) :
    Calls Try.prog 8 #[.int .u8 role, .int .u64 d1, .int .u64 d2, .slice ao n cap] w fun e w' => e = .returned (.bool true) ∧ Below w.heap.size w w' := by
  have hn := h.small
  go_enter Try.func8, Try.ntmps8
  go_wp2_with fail
  refine (f28_any role d1 d2 ao n cap R _ h).mono ?_
  rintro e w1 ⟨⟨b0, rfl⟩, rfl⟩
  cases b0
  · go_wp2
    go_ret
    exact ⟨rfl, Below.refl _ _⟩
  go_wp2_with fail
  refine (f25_any ao n cap R _ h).mono ?_
  rintro e w1 ⟨⟨b1, rfl, hs⟩, rfl⟩
  cases b1
  case true =>
    go_wp2
    go_ret
    exact ⟨rfl, Below.refl _ _⟩
  replace hs := hs rfl
  by_cases hrole : 2 < role
  · go_wp2
    go_ret
    exact ⟨rfl, Below.refl _ _⟩
  go_upto_if 31 with fail
  go_cut [9, 10] (fun s t w' => ∃ lo hi : Int, lo ≤ hi ∧ s = .int .u64 lo ∧ t = .int .u64 hi ∧ w' = w1)
  case first =>
    by_cases hc : d2 < d1
    · go_wp2_with fail
      go_meet
      case rel => exact ⟨d2, d1, by omega, rfl, rfl, rfl⟩
    · go_wp2_with fail
      go_meet
      case rel => exact ⟨d1, d2, by omega, rfl, rfl, rfl⟩
  obtain ⟨lo, hi, hlh, rfl, rfl, rfl⟩ := hcut
  -- what is told at lo
  go_wp2_with fail
  refine (f27_any role lo ao n cap R 0 n _ h (by omega) (by omega) (by omega) hs).mono ?_
  rintro e w1 ⟨rfl, hR1, hb1⟩
  simp only [Int.toNat_natCast, Int.toNat_zero] at hR1
  go_wp2_with fail
  refine (f26_any _ role lo _ _ (by rw [rmsOf_length]; omega) hR1).mono ?_
  rintro e w2 ⟨v1, rfl, ⟨a1, L1, p1, rfl, hL1, hT1, hz1⟩, hb2⟩
  have hB2 : Below wc.heap.size wc w2 := hb1.trans (hb2.mono hb1.size)
  have hW2 := h.below hB2
  have HL1 := hide hL1
  have HZ1 := hide hz1
  clear hR1 hb1 hb2 hL1 hz1
  -- what is told at hi
  go_wp2_with fail
  refine (f27_any role hi ao n cap R 0 n _ hW2 (by omega) (by omega) (by omega) hs).mono ?_
  rintro e w3 ⟨rfl, hR1, hb1⟩
  simp only [Int.toNat_natCast, Int.toNat_zero] at hR1
  go_wp2_with fail
  refine (f26_any _ role hi _ _ (by rw [rmsOf_length]; omega) hR1).mono ?_
  rintro e w4 ⟨v2, rfl, ⟨a2, L2, p2, rfl, hL2, hT2, hz2⟩, hb2⟩
  have hB : Below w2.heap.size w2 w4 := hb1.trans (hb2.mono hb1.size)
  have hB4 : Below wc.heap.size wc w4 := hB2.trans (hB.mono hB2.size)
  have hW4 := h.below hB4
  have hT1' := hT1.below hB
  have HL2 := hide hL2
  have HZ2 := hide hz2
  clear hR1 hb1 hb2 hL2 hz2 hW2 hB2 hT1 hB
  have b1 : L1 ≤ 65536 := by rw [HL1.out]; exact told_le_n role lo R 0 n hs
  have b2 : L2 ≤ 65536 := by rw [HL2.out]; exact told_le_n role hi R 0 n hs
  by_cases hlead : role = 2
  · subst hlead
    have HS : Hid (L2 = L1 + (newl lo hi (rmsOf R 0 n)).length) := by unfold Hid; rw [HL2.out, HL1.out, told_yes, told_yes, comm_newl hlh]
    have HK : Hid ((keys (told 2 lo (rmsOf R 0 n))).Sublist (keys (told 2 hi (rmsOf R 0 n)))) := by unfold Hid; rw [told_yes, told_yes]; exact comm_sub hlh _
    go_wp2_with fail
    go_loop [13, 14] (fun t i => ∃ k q : Nat, k ≤ n ∧ i = .int .i64 k ∧ t = .int .i64 q ∧ Hid (q = (newl lo hi (rmsOf R 0 k)).length)) (fun _ i => n - (intOf i).toNat)
    case atStart => exact ⟨0, 0, by omega, rfl, rfl, by simp [Hid, rmsOf, newl]⟩
    case round =>
      obtain ⟨k, q, hk, rfl, rfl, hq⟩ := hrel
      by_cases hlt : k < n
      · have hqb : q ≤ 65536 := by rw [hq.out]; have := newl_le lo hi (rmsOf R 0 k); rw [rmsOf_length] at this; omega
        rcases hW4.place with h0 | ⟨b, off, rfl, hb, hcell⟩
        · omega
        · obtain ⟨_, _, c2⟩ := hcell k hlt
          have hkn : (k : Int) < (n : Int) := by omega
          clear hcell
          by_cases hle : lo < (R k).idx
          · by_cases hle2 : (R k).idx ≤ hi
            · have E := hide (newl_yes (R := R) hle hle2)
              go_wp2_with fail
              go_round
              case rel => exact ⟨k + 1, q + 1, by omega, by go_num, by go_num, by unfold Hid; rw [E.out, hq.out]⟩
              case measure => simp [intOf]; omega
            · have E := hide (newl_no (R := R) (lo := lo) (hi := hi) (k := k) (by omega))
              go_wp2_with fail
              go_round
              case rel => exact ⟨k + 1, q, by omega, by go_num, rfl, by unfold Hid; rw [E.out, hq.out]⟩
              case measure => simp [intOf]; omega
          · have E := hide (newl_no (R := R) (lo := lo) (hi := hi) (k := k) (by omega))
            have hle' : decide (lo < (R k).idx) = false := by simpa using hle
            go_wp2_with fail
            go_round
            case rel => exact ⟨k + 1, q, by omega, by go_num, rfl, by unfold Hid; rw [E.out, hq.out]⟩
            case measure => simp [intOf]; omega
      · have HQ : Hid (L2 = L1 + q) := by
          unfold Hid
          have : k = n := by omega
          rw [HS.out, hq.out, this]
        have hne : ((L2 : Int) - (L1 : Int) != (q : Int)) = false := by have := HQ.out; simp; omega
        have hq' : L1 ≤ L2 := by have := HQ.out; omega
        go_wp2_with fail
        -- the greedy match
        go_loopw [15, 16] (fun s t wr => ∃ i k j : Nat, i ≤ L2 ∧ k ≤ L1 ∧ s = .int .i64 k ∧ t = .int .i64 i ∧ wr = w4.drewN j ∧ Hid (((keys (told 2 lo (rmsOf R 0 n))).drop k).Sublist ((keys (told 2 hi (rmsOf R 0 n))).drop i)))
          (fun _ t _ => L2 - (intOf t).toNat)
        case atStart => exact ⟨0, 0, 0, by omega, by omega, rfl, rfl, rfl, by simpa [Hid] using HK.out⟩
        case round =>
          obtain ⟨i, m, j, hiL, hmL, rfl, rfl, rfl, hsub⟩ := hrel
          by_cases hi2 : i < L2
          · by_cases hm1 : m < L1
            · obtain ⟨x, hx⟩ : ∃ x, (told 2 hi (rmsOf R 0 n))[i]? = some x := ⟨_, List.getElem?_eq_getElem (by rw [← HL2.out]; exact hi2)⟩
              obtain ⟨y, hy⟩ : ∃ y, (told 2 lo (rmsOf R 0 n))[m]? = some y := ⟨_, List.getElem?_eq_getElem (by rw [← HL1.out]; exact hm1)⟩
              obtain ⟨g1, rfl, _, c0, c1⟩ := hT2.cell i x hx
              obtain ⟨g2, rfl, _, e0, e1⟩ := hT1'.cell m y hy
              have i1 : (i : Int) < (L2 : Int) := by omega
              have i2 : (m : Int) < (L1 : Int) := by omega
              have hd := held68
              have hgd := guard68
              have HX := hide (keys_at hx)
              have HY := hide (keys_at hy)
              clear hx hy
              by_cases hxy : key x = key y
              · have hid : (x.id == y.id) = true := by have := congrArg Prod.fst hxy; simpa [key] using this
                have hadr : (x.addr.toList == y.addr.toList) = true := by have := congrArg Prod.snd hxy; simpa [key] using this
                have HXY := hide hxy
                clear hxy
                go_wp2_with fail
                go_quiet (fail)
                go_wp2_with fail
                go_roundw
                case rel => exact ⟨i + 1, m + 1, _, by omega, by omega, by go_num, by go_num, rfl, sub_hit (HXY.out ▸ HX.out) HY.out hsub.out⟩
                case measure => simp [intOf]; omega
              · have hb : (x.id == y.id && x.addr.toList == y.addr.toList) = false := by
                  rw [Bool.eq_false_iff]; intro hh; simp at hh; exact hxy (Prod.ext hh.1 hh.2)
                have hb' : ∀ w, (binOp .eql 68 (.agg #[.int .u64 x.id, .string x.addr]) (.agg #[.int .u64 y.id, .string y.addr])).run Try.prog w = .ok (.bool false) w := fun w => by rw [eql68, hb]
                clear hb
                have HXY := hide hxy
                clear hxy
                go_wp2_with fail
                go_quiet (fail)
                go_wp2_with fail
                go_roundw
                case rel => exact ⟨i + 1, m, _, by omega, by omega, rfl, by go_num, rfl, sub_miss HX.out HY.out HXY.out hsub.out⟩
                case measure => simp [intOf]; omega
            · obtain rfl : m = L1 := by omega
              go_wp2_with fail
              go_ret
              exact ⟨rfl, below_drewN hB4 _⟩
          · obtain rfl : m = L1 := by
              have := sub_end (by rw [keys_length, ← HL2.out]; omega) hsub.out
              rw [keys_length, ← HL1.out] at this
              omega
            go_wp2_with fail
            go_ret
            exact ⟨rfl, below_drewN hB4 _⟩
  · obtain ⟨rfl, rfl, rfl⟩ := HZ1.out hlead
    obtain ⟨rfl, rfl, rfl⟩ := HZ2.out hlead
    have hr2 : (role == 2) = false := by simpa using hlead
    clear HL1 HL2 HZ1 HZ2 b1 b2 hT1' hT2
    go_wp2_with fail
    go_loopw [15, 16] (fun s t wr => s = .int .i64 0 ∧ t = .int .i64 0 ∧ wr = w4) (fun _ _ _ => 0)
    case atStart => exact ⟨rfl, rfl, rfl⟩
    case round =>
      obtain ⟨rfl, rfl, rfl⟩ := hrel
      go_wp2_with fail
      go_ret
      exact ⟨rfl, hB4⟩
end Go.Proofs.Qxb6614540a
