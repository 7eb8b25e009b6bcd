/-
  The law FnTellingSplitsOverAnyCut, walked.
-/
import Derived.Test.Qxb6614540aTellF
import Derived.Deep.DeepCutAuto
namespace Go.Proofs.Qxb6614540a
open Go.RowKit

set_option maxRecDepth 100000 in
set_option maxHeartbeats 1000000 in
theorem law7 (role commit : Int) (ao : Option Addr) (n cap : Nat) (R : Nat → Rm) (cut : Int) (w : World) (h : RowsAt w ao n R) :
    Calls Try.prog 7 #[.int .u8 role, .int .u64 commit, .slice ao n cap, .int .i64 cut] w fun e w' => e = .returned (.bool true) ∧ Below w.heap.size w w' := by
  have hn := h.small
  go_enter Try.func7, Try.ntmps7
  go_wp2_with fail
  refine (f24_any role commit ao n cap R cut _ h).mono ?_
  rintro e w1 ⟨⟨b0, rfl⟩, rfl⟩
  cases b0
  · go_wp2
    go_ret
    exact ⟨rfl, Below.refl _ _⟩
  go_wp2_with fail
  refine (f25_any ao n cap R _ h).mono ?_
  rintro e w1 ⟨⟨b1, rfl, hs⟩, rfl⟩
  cases b1
  case true =>
    go_wp2
    go_ret
    exact ⟨rfl, Below.refl _ _⟩
  replace hs := hs rfl
  by_cases hrole : 2 < role
  · go_wp2
    go_ret
    exact ⟨rfl, Below.refl _ _⟩
  go_upto_if 29 with fail
  go_cut [3] (fun s w' => ∃ c : Int, 0 ≤ c ∧ s = .int .i64 c ∧ w' = w1)
  case first =>
    by_cases hc : cut < 0
    · go_wp2_with fail
      go_meet
      case rel => exact ⟨0, by omega, rfl, rfl⟩
    · go_wp2_with fail
      go_meet
      case rel => exact ⟨cut, by omega, rfl, rfl⟩
  obtain ⟨c1, hc1, rfl, rfl⟩ := hcut
  go_upto_if 33 with fail
  go_cut [3] (fun s w' => ∃ c : Nat, c ≤ n ∧ s = .int .i64 c ∧ w' = wc)
  case first =>
    by_cases hc : (n : Int) < c1
    · go_wp2_with fail
      go_meet
      case rel => exact ⟨n, by omega, rfl, rfl⟩
    · go_wp2_with fail
      go_meet
      case rel => exact ⟨c1.toNat, by omega, by rw [Int.toNat_of_nonneg hc1], rfl⟩
  obtain ⟨c, hc, rfl, rfl⟩ := hcut
  clear hc1
  -- the whole list
  go_wp2_with fail
  refine (f27_any role commit ao n cap R 0 n _ h (by omega) (by omega) (by omega) hs).mono ?_
  rintro e w1 ⟨rfl, hR1, hb1⟩
  simp only [Int.toNat_natCast, Int.toNat_zero] at hR1
  go_wp2_with fail
  refine (f26_any _ role commit _ _ (by rw [rmsOf_length]; omega) hR1).mono ?_
  rintro e w2 ⟨v1, rfl, ⟨a1, L1, p1, rfl, hL1, hT1, hz1⟩, hb2⟩
  have hB2 : Below wc.heap.size wc w2 := hb1.trans (hb2.mono hb1.size)
  have hW2 := h.below hB2
  have HL1 := hide hL1
  have HZ1 := hide hz1
  clear hR1 hb1 hb2 hL1 hz1
  -- the left side
  go_wp2_with fail
  refine (f27_any role commit ao n cap R 0 c _ hW2 (by omega) (by omega) (by omega) hs).mono ?_
  rintro e w3 ⟨rfl, hR1, hb1⟩
  simp only [Int.toNat_natCast, Int.toNat_zero] at hR1
  go_wp2_with fail
  refine (f26_any _ role commit _ _ (by rw [rmsOf_length]; omega) hR1).mono ?_
  rintro e w4 ⟨v2, rfl, ⟨a2, L2, p2, rfl, hL2, hT2, hz2⟩, hb2⟩
  have hB : Below w2.heap.size w2 w4 := hb1.trans (hb2.mono hb1.size)
  have hB4 : Below wc.heap.size wc w4 := hB2.trans (hB.mono hB2.size)
  have hW4 := h.below hB4
  have hT1' := hT1.below hB
  have HL2 := hide hL2
  have HZ2 := hide hz2
  clear hR1 hb1 hb2 hL2 hz2 hW2 hB2 hT1 hB
  -- the right side
  go_wp2_with fail
  refine (f27_any role commit ao n cap R c n _ hW4 (by omega) (by omega) (by omega) hs).mono ?_
  rintro e w5 ⟨rfl, hR1, hb1⟩
  simp only [Int.toNat_natCast] at hR1
  go_wp2_with fail
  refine (f26_any _ role commit _ _ (by rw [rmsOf_length]; omega) hR1).mono ?_
  rintro e w6 ⟨v3, rfl, ⟨a3, L3, p3, rfl, hL3, hT3, hz3⟩, hb2⟩
  have hB : Below w4.heap.size w4 w6 := hb1.trans (hb2.mono hb1.size)
  have hB6 : Below wc.heap.size wc w6 := hB4.trans (hB.mono hB4.size)
  have hW6 := h.below hB6
  have hT1 := hT1'.below hB
  have hT2' := hT2.below hB
  have HL3 := hide hL3
  have HZ3 := hide hz3
  clear hR1 hb1 hb2 hL3 hz3 hW4 hB4 hT1' hT2 hB
  have HA := hide (told_cut role commit R n c hc)
  have b1 : L1 ≤ 65536 := by rw [HL1.out]; exact told_le_n role commit R 0 n hs
  have b2 : L2 ≤ 65536 := by rw [HL2.out]; exact told_le_n role commit R 0 c (by omega)
  have b3 : L3 ≤ 65536 := by rw [HL3.out]; exact told_le_n role commit R c n hs
  have HS : Hid (L1 = L2 + L3) := by unfold Hid; rw [HL1.out, HL2.out, HL3.out, HA.out, List.length_append]
  by_cases hlead : role = 2
  · subst hlead
    have HT : Hid ((told 2 commit (rmsOf R 0 n)).length = (comm commit (rmsOf R 0 n)).length) := by simp [Hid, told]
    go_wp2_with fail
    go_loop [13, 14] (fun t i => ∃ k q : Nat, k ≤ n ∧ i = .int .i64 k ∧ t = .int .i64 q ∧ Hid (q = (comm commit (rmsOf R 0 k)).length)) (fun _ i => n - (intOf i).toNat)
    case atStart => exact ⟨0, 0, by omega, rfl, rfl, by simp [Hid, rmsOf, comm]⟩
    case round =>
      obtain ⟨k, q, hk, rfl, rfl, hq⟩ := hrel
      by_cases hlt : k < n
      · have hqb : q ≤ 65536 := by rw [hq.out]; have := comm_le commit (rmsOf R 0 k); rw [rmsOf_length] at this; omega
        rcases hW6.place with h0 | ⟨b, off, rfl, hb, hcell⟩
        · omega
        · obtain ⟨_, _, d2⟩ := hcell k hlt
          have hkn : (k : Int) < (n : Int) := by omega
          by_cases hle : (R k).idx ≤ commit
          · go_wp2_with fail
            go_round
            case rel => exact ⟨k + 1, q + 1, by omega, by go_num, by go_num, by unfold Hid; rw [comm_succ_yes hle, hq.out]⟩
            case measure => simp [intOf]; omega
          · have E := hide (comm_succ_no hle)
            go_wp2_with fail
            go_round
            case rel => exact ⟨k + 1, q, by omega, by go_num, rfl, by unfold Hid; rw [E.out, hq.out]⟩
            case measure => simp [intOf]; omega
      · obtain rfl : q = L1 := by
          have : k = n := by omega
          rw [hq.out, HL1.out, HT.out, this]
        have hne : ((q : Int) != (L2 : Int) + (L3 : Int)) = false := by have := HS.out; simp; omega
        go_wp2_with fail
        -- the left side is the head of the whole
        go_loopw [15] (fun i wr => ∃ k j : Nat, k ≤ L2 ∧ i = .int .i64 k ∧ wr = w6.drewN j) (fun i _ => L2 - (intOf i).toNat)
        case atStart => exact ⟨0, 0, by omega, rfl, rfl⟩
        case round =>
          obtain ⟨k2, j2, hk2, rfl, rfl⟩ := hrel
          have hQ : L2 ≤ q := by have := HS.out; omega
          by_cases hlt2 : k2 < L2
          · obtain ⟨m, hm⟩ : ∃ m, (told 2 commit (rmsOf R 0 c))[k2]? = some m := ⟨_, List.getElem?_eq_getElem (by rw [← HL2.out]; exact hlt2)⟩
            have hmA : (told 2 commit (rmsOf R 0 n))[k2]? = some m := by rw [HA.out, List.getElem?_append_left (by rw [← HL2.out]; exact hlt2)]; exact hm
            obtain ⟨g1, rfl, _, d0, d1⟩ := hT1.cell k2 m hmA
            obtain ⟨g2, rfl, _, e0, e1⟩ := hT2'.cell k2 m hm
            have i1 : (k2 : Int) < (q : Int) := by omega
            have i2 : (k2 : Int) < (L2 : Int) := by omega
            have hd := held68
            have hgd := guard68
            clear hm hmA
            go_wp2_with fail
            go_quiet (fail)
            go_wp2_with fail
            go_roundw
            case rel => exact ⟨k2 + 1, _, by omega, by go_num, rfl⟩
            case measure => simp [intOf]; omega
          · go_wp2_with fail
            -- the right side is the rest of the whole
            go_loopw [16] (fun i wr => ∃ k j : Nat, k ≤ L3 ∧ i = .int .i64 k ∧ wr = w6.drewN j) (fun i _ => L3 - (intOf i).toNat)
            case atStart => exact ⟨0, _, by omega, rfl, rfl⟩
            case round =>
              obtain ⟨k3, j3, hk3, rfl, rfl⟩ := hrel
              by_cases hlt3 : k3 < L3
              · obtain ⟨m, hm⟩ : ∃ m, (told 2 commit (rmsOf R c n))[k3]? = some m := ⟨_, List.getElem?_eq_getElem (by rw [← HL3.out]; exact hlt3)⟩
                have hmA : (told 2 commit (rmsOf R 0 n))[L2 + k3]? = some m := by rw [HA.out, List.getElem?_append_right (by rw [← HL2.out]; omega), ← HL2.out, Nat.add_sub_cancel_left]; exact hm
                obtain ⟨g1, rfl, _, d0, d1⟩ := hT1.cell (L2 + k3) m hmA
                obtain ⟨g3, rfl, _, e0, e1⟩ := hT3.cell k3 m hm
                have i1 : (L2 : Int) + (k3 : Int) < (q : Int) := by have := HS.out; omega
                have i2 : (k3 : Int) < (L3 : Int) := by omega
                have hd := held68
                have hgd := guard68
                clear hm hmA
                go_wp2_with fail
                go_quiet (fail)
                go_wp2_with fail
                go_roundw
                case rel => exact ⟨k3 + 1, _, by omega, by go_num, rfl⟩
                case measure => simp [intOf]; omega
              · by_cases hcn : c < n
                · have hB7 := below_drewN hB6 j3
                  have hW7 := h.below hB7
                  go_wp2_with fail
                  refine (f27_any 2 commit ao n cap R c ((c : Int) + 1) _ hW7 (by omega) (by omega) (by omega) hs).mono ?_
                  rintro e w7 ⟨rfl, hR1, hb1⟩
                  rw [Int.toNat_natCast, show ((c : Int) + 1).toNat = c + 1 by omega, rmsOf_one] at hR1
                  go_wp2_with fail
                  refine (f26_any _ 2 commit _ _ (by simp) hR1).mono ?_
                  rintro e w8 ⟨v4, rfl, ⟨a4, L4, p4, rfl, hL4, hT4, hz4⟩, hb2⟩
                  have hB : Below (w6.drewN j3).heap.size (w6.drewN j3) w8 := hb1.trans (hb2.mono hb1.size)
                  have hB8 : Below wc.heap.size wc w8 := hB7.trans (hB.mono hB7.size)
                  have hW8 := h.below hB8
                  simp only [told, if_true] at hL4 hT4
                  clear hR1 hb1 hb2 hW7 hB hB7 hz4 hT1 hT2' hT3 HL1 HL2 HL3 HZ1 HZ2 HZ3 HS HA
                  rcases hW8.place with h0 | ⟨b, off, rfl, hb, hcell⟩
                  · omega
                  · obtain ⟨d0, d1, d2⟩ := hcell c hcn
                    have hkn : (c : Int) < (n : Int) := by omega
                    by_cases hle : (R c).idx ≤ commit
                    · rw [comm_one_yes hle] at hL4 hT4
                      obtain ⟨g4, rfl, _, e0, e1⟩ := hT4.cell 0 (R c) rfl
                      simp only [List.length_singleton] at hL4
                      subst hL4
                      simp only [Nat.zero_mul, Nat.zero_add] at e0 e1
                      clear hT4 hcell
                      go_wp2_with fail
                      go_quiet (fail)
                      go_wp2_with fail
                      go_ret
                      exact ⟨rfl, below_drewN hB8 _⟩
                    · rw [comm_one_no hle] at hL4
                      simp only [List.length_nil] at hL4
                      subst hL4
                      clear hT4 hcell
                      have hle' : decide ((R c).idx ≤ commit) = false := by simpa using hle
                      go_wp2_with fail
                      go_ret
                      exact ⟨rfl, hB8⟩
                · go_wp2_with fail
                  go_ret
                  exact ⟨rfl, below_drewN hB6 _⟩
  · obtain ⟨rfl, rfl, rfl⟩ := HZ1.out hlead
    obtain ⟨rfl, rfl, rfl⟩ := HZ2.out hlead
    obtain ⟨rfl, rfl, rfl⟩ := HZ3.out hlead
    have hr2 : (role == 2) = false := by simpa using hlead
    clear HL1 HL2 HL3 HZ1 HZ2 HZ3 HS HA b1 b2 b3 hT1 hT2' hT3
    go_wp2_with fail
    go_loopw [15] (fun i wr => i = .int .i64 0 ∧ wr = w6) (fun i _ => 0)
    case atStart => exact ⟨rfl, rfl⟩
    case round =>
      obtain ⟨rfl, rfl⟩ := hrel
      go_wp2_with fail
      go_loopw [16] (fun i wr' => i = .int .i64 0 ∧ wr' = wr) (fun i _ => 0)
      case atStart => exact ⟨rfl, rfl⟩
      case round =>
        obtain ⟨rfl, rfl⟩ := hrel
        by_cases hcn : c < n
        · go_wp2_with fail
          refine (f27_any role commit ao n cap R c ((c : Int) + 1) _ hW6 (by omega) (by omega) (by omega) hs).mono ?_
          rintro e w7 ⟨rfl, hR1, hb1⟩
          rw [Int.toNat_natCast, show ((c : Int) + 1).toNat = c + 1 by omega, rmsOf_one] at hR1
          go_wp2_with fail
          refine (f26_any _ role commit _ _ (by simp) hR1).mono ?_
          rintro e w8 ⟨v4, rfl, ⟨a4, L4, p4, rfl, hL4, hT4, hz4⟩, hb2⟩
          obtain ⟨rfl, rfl, rfl⟩ := hz4 hlead
          have hB8 : Below wc.heap.size wc w8 := hB6.trans ((hb1.trans (hb2.mono hb1.size)).mono hB6.size)
          clear hL4 hT4 hz4 hR1 hb1 hb2
          go_wp2_with fail
          go_ret
          exact ⟨rfl, hB8⟩
        · go_wp2_with fail
          go_ret
          exact ⟨rfl, hB6⟩
end Go.Proofs.Qxb6614540a
