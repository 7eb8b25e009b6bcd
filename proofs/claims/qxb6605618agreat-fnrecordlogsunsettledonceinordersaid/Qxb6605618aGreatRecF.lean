/-
  The law of many recorders, walked.
-/
import Derived.Test.Qxb6605618aGreatRecE
namespace Go.Proofs.Qxb6605618aGreat
open Go.RowKit

theorem info25 : (Tryz.prog.info? 25).map (fun i => (i.zero, i.size, i.bytes)) = some (some (.pointer none), 1, 8) := by kernel_rfl

/-- The request of recorder j. -/
def reqOf (m p : ByteArray) (C : Nat → Int) (j : Nat) : An := ⟨m, p, ⟨#[]⟩, ⟨#[]⟩, C j⟩
/-- Is recorder j settled from the start? -/
def setOf (k : Nat) (B : Nat → Bool) (j : Nat) : Bool := decide (j < k) && B j

theorem park0 {w0 w1 w2 : World} {n : Nat} {xs : List Value} (A : Nat → An) (f : Nat → Bool) (b1 : Below w0.heap.size w0 w1) (s1 : w1.heap.size = w0.heap.size + 1) (S1 : Srv w1 w0.heap.size [])
    (hown : w2.ownsRow (w0.heap.size + 1) 25 1 (.slice (some ⟨w0.heap.size + 1, 0, none⟩) n n) n xs) (hgrow : w1.grownBy w2 none) : Park w0 w2 w0.heap.size w2.heap.size n 0 A f [] := by
  have hb : Below w1.heap.size w1 w2 := (Below.refl _ _).grown hgrow (Nat.le_refl _) (fun k hk => by cases hk)
  refine ⟨?_, b1.trans (hb.mono (by omega)), S1.below hb, ?_, fun j hj => by omega⟩
  · exact (hown.lt (w0.heap.size + 1) rfl).2
  · rcases hown.2 with ⟨hv, _⟩ | ⟨g, cap, cur, hv, _, hh, _, _, hsz, _⟩
    · cases hv
    · simp only [Value.slice.injEq, Option.some.injEq, Addr.mk.injEq] at hv
      obtain ⟨⟨rfl, _⟩, _, rfl⟩ := hv
      exact ⟨cur, hh, by omega, fun j hj => by omega⟩

theorem Park.room {w0 w : World} {s t n i : Nat} {A : Nat → An} {f : Nat → Bool} {l : List An} (h : Park w0 w s t n i A f l) {j : Nat} (hj : j < n) (o : Obj) : (∃ v, (w.alloc o).cell? ⟨s + 1, j, none⟩ = some v) ∧ (w.alloc o).frozen? ⟨s + 1, j, none⟩ = false := by
  obtain ⟨cs, hc, hn, _⟩ := h.row
  have hc' : (w.alloc o).heap[s + 1]? = some (.cells cs 25 (0, 0)) := (Below.heap_alloc _ _ _ (Array.getElem?_eq_some_iff.1 hc).1).trans hc
  refine ⟨⟨cs[j]'(by omega), ?_⟩, frozen_of_row _ _ _ cs 25 hc'⟩
  rw [cell_of_row _ (s + 1) j cs 25 _ hc']
  simp

set_option maxRecDepth 100000 in
set_option maxHeartbeats 4000000 in
theorem law4 (m p : ByteArray) (ao bo : Option Addr) (n k c c' : Nat) (C : Nat → Int) (B : Nat → Bool) (w : World) (hC : IntsAt w ao n C) (hB : BoolsAt w bo k B) :
    Calls Tryz.prog 4 #[.string m, .string p, .slice ao n c, .slice bo k c'] w fun e w' => e = .returned (.bool true) ∧ Below w.heap.size w w' := by
  go_enter Tryz.func4, Tryz.ntmps4
  go_wp2_with fail
  refine (f12_any m p ao bo n k c c' _).mono ?_
  rintro e w' ⟨rfl, z, rfl, hz⟩
  cases z with
  | false =>
    go_wp2_with fail
    go_ret
    exact ⟨rfl, Below.refl _ _⟩
  | true =>
  have hn := hz rfl
  clear hz
  have k1 : decide ((1048576 : Int) < m.size) = false := by simp; omega
  have k2 : decide ((1048576 : Int) < p.size) = false := by simp; omega
  by_cases h3 : 65536 < n
  · have k3 : decide ((65536 : Int) < n) = true := by simp; omega
    go_wp2_with fail
    go_ret
    exact ⟨rfl, Below.refl _ _⟩
  have k3 : decide ((65536 : Int) < n) = false := by simp; omega
  by_cases h4 : 65536 < k
  · have k4 : decide ((65536 : Int) < k) = true := by simp; omega
    go_wp2_with fail
    go_ret
    exact ⟨rfl, Below.refl _ _⟩
  have k4 : decide ((65536 : Int) < k) = false := by simp; omega
  by_cases h5 : 1048576 < m.size + p.size + 8 * n + k
  · have k5 : decide ((1048576 : Int) < (m.size : Int) + p.size + 8 * n + k) = true := by simp; omega
    go_wp2_with fail
    go_ret
    exact ⟨rfl, Below.refl _ _⟩
  have k5 : decide ((1048576 : Int) < (m.size : Int) + p.size + 8 * n + k) = false := by simp; omega
  go_wp2_with fail
  refine (f6_any _).mono ?_
  rintro e w1 ⟨rfl, hw1⟩
  have b1 : Below w'.heap.size w' w1 := by rw [hw1]; exact (Below.refl _ _).alloc (Nat.le_refl _) _
  have s1 : w1.heap.size = w'.heap.size + 1 := by rw [hw1]; simp
  have S1 : Srv w1 w'.heap.size [] := ⟨srvCells, by rw [hw1]; exact heap_alloc_new _ _, rfl, rfl, none, 0, rfl, World.ownsRow_nil _ _ _ _⟩
  clear hw1 k1 k2 k3 k4 k5
  obtain ⟨i0, hi, hz0, hz1, hz2⟩ := info_parts info25
  have HI := hide hi
  clear hi
  have hn' : n ≤ 65536 := by omega
  have hk' : k ≤ 65536 := by omega
  go_wp2_with (refine wpList_make_full _ rfl (.tmp 58) (.tmp 58) 34 rfl w1.heap.size 25 i0 _ 1 Tryz.underlying34 HI.out hz0 hz1 .i64 .i64 _ _ n rfl rfl rfl rfl (by rw [hz2]; omega) (by unfold maxLen; omega) (Nat.le_refl _) ?_)
  intro w2 hown hgrow
  have P0 := park0 (reqOf m p C) (setOf k B) b1 s1 S1 hown hgrow
  obtain ⟨t, ht⟩ : ∃ t, w2.heap.size = t := ⟨_, rfl⟩
  rw [ht] at P0
  clear b1 s1 S1 hown hgrow
  go_wp2_with fail
  go_loopw [12] (fun i wr => ∃ j : Nat, j ≤ n ∧ i = .int .i64 j ∧ wr.heap.size = t + j ∧ Hid (Park w' wr w'.heap.size t n j (reqOf m p C) (setOf k B) [])) (fun i _ => n - (intOf i).toNat)
  case atStart => exact ⟨0, Nat.zero_le _, rfl, ht, P0⟩
  case round =>
    rename World => wa
    obtain ⟨j, hj, rfl, hsz, PK⟩ := hrel
    clear P0 ht
    by_cases hjn : j < n
    · have hjn' : (j : Int) < (n : Int) := by omega
      rcases hC with h0 | ⟨b, off, rfl, hb, hc⟩
      · omega
      have cI : wa.cell? ⟨b, off + j, none⟩ = some (.int .i64 (C j)) := (PK.out.bel.cell (p := ⟨b, _, none⟩) hb).trans (hc j hjn)
      clear hc
      by_cases hjk : j < k
      · have hjk' : (j : Int) < (k : Int) := by omega
        rcases hB with h0 | ⟨b', off', rfl, hb', hc'⟩
        · omega
        have cB : wa.cell? ⟨b', off' + j, none⟩ = some (.bool (B j)) := (PK.out.bel.cell (p := ⟨b', _, none⟩) hb').trans (hc' j hjk)
        have hT : setOf k B j = B j := by simp [setOf, hjk]
        clear hc'
        go_wp2_with fail
        refine (f7_any w'.heap.size ⟨m, p, ⟨#[]⟩, ⟨#[]⟩, C j⟩ (B j) _).mono ?_
        rintro e w3 ⟨rfl, hw3⟩
        obtain ⟨⟨v, cv⟩, fv⟩ := PK.out.room hjn (.cells (recCells w'.heap.size ⟨m, p, ⟨#[]⟩, ⟨#[]⟩, C j⟩ (B j)) 72)
        rw [← hw3] at cv fv
        rw [hsz]
        have HW := hide hw3
        clear hw3
        go_wp2_with fail
        have hm := PK.out.more hsz hjn
        rw [hT] at hm
        refine ⟨⟨j + 1, by omega, by simp, ?_⟩, ?_⟩
        · rw [HW.out]; exact ⟨hm.2, hm.1⟩
        · simp [intOf]; omega
      · have hjk' : (k : Int) ≤ (j : Int) := by omega
        have hT : setOf k B j = false := by simp [setOf, hjk]
        go_wp2_with fail
        refine (f7_any w'.heap.size ⟨m, p, ⟨#[]⟩, ⟨#[]⟩, C j⟩ false _).mono ?_
        rintro e w3 ⟨rfl, hw3⟩
        obtain ⟨⟨v, cv⟩, fv⟩ := PK.out.room hjn (.cells (recCells w'.heap.size ⟨m, p, ⟨#[]⟩, ⟨#[]⟩, C j⟩ false) 72)
        rw [← hw3] at cv fv
        rw [hsz]
        have HW := hide hw3
        clear hw3
        go_wp2_with fail
        have hm := PK.out.more hsz hjn
        rw [hT] at hm
        refine ⟨⟨j + 1, by omega, by simp, ?_⟩, ?_⟩
        · rw [HW.out]; exact ⟨hm.2, hm.1⟩
        · simp [intOf]; omega
    · have hjn' : (n : Int) ≤ (j : Int) := by omega
      obtain rfl : n = j := by omega
      have P1 : Park w' wa w'.heap.size t n n (reqOf m p C) (fun q => setOf k B q || decide (q < 0)) (logTo (reqOf m p C) (setOf k B) 0) := PK.out.flags (fun q _ => by simp)
      clear PK hsz hj hjn hjn'
      go_wp2_with fail
      go_loopw [14] (fun i wr => ∃ j : Nat, j ≤ n ∧ i = .int .i64 j ∧ Hid (Park w' wr w'.heap.size t n n (reqOf m p C) (fun q => setOf k B q || decide (q < j)) (logTo (reqOf m p C) (setOf k B) j))) (fun i _ => n - (intOf i).toNat)
      case atStart => exact ⟨0, Nat.zero_le _, rfl, P1⟩
      case round =>
        rename World => wb
        obtain ⟨j, hj, rfl, PK⟩ := hrel
        clear P1
        by_cases hjn : j < n
        · have hjn' : (j : Int) < (n : Int) := by omega
          have cR := PK.out.cell hjn
          have hr := PK.out.recs j hjn
          have hT : (setOf k B j || decide (j < j)) = setOf k B j := by simp
          simp only [hT] at hr
          have hfar := PK.out.far
          have hlen := logTo_len (reqOf m p C) (setOf k B) j
          go_wp2_with fail
          refine (f8_any _ _ _ _ _ _ hr PK.out.srv (by omega) (by omega)).mono ?_
          rintro e w3 ⟨rfl, hr3, hs3, hA3⟩
          have P3 : Park w' w3 w'.heap.size t n n (reqOf m p C) (fun q => setOf k B q || decide (q < j + 1)) (logTo (reqOf m p C) (setOf k B) (j + 1)) := by
            have := PK.out.record (j := j) hr3 (by simp only [hT]; exact hs3) hA3
            simp only [hT] at this
            refine Park.flags this fun q _ => ?_
            by_cases h1 : q < j
            · simp [h1, show q < j + 1 by omega]
            · by_cases h2 : q = j
              · simp [h2]
              · simp [h1, h2, show ¬ q < j + 1 by omega]
          have HP3 := hide P3
          clear P3 hr3 hs3 hA3 hr
          go_wp2_with fail
          exact ⟨⟨j + 1, by omega, by simp, HP3⟩, by simp [intOf]; omega⟩
        · have hjn' : (n : Int) ≤ (j : Int) := by omega
          obtain rfl : n = j := by omega
          have P2 : Park w' wb w'.heap.size t n n (reqOf m p C) (fun _ => true) (logTo (reqOf m p C) (setOf k B) n) := PK.out.flags (fun q hq => by simp [hq])
          clear PK hj hjn hjn'
          have hlen := logTo_len (reqOf m p C) (setOf k B) n
          go_wp2_with fail
          go_loopw [15] (fun i wr => ∃ j : Nat, j ≤ n ∧ i = .int .i64 ((j : Int) - 1) ∧ Hid (Park w' wr w'.heap.size t n n (reqOf m p C) (fun _ => true) (logTo (reqOf m p C) (setOf k B) n))) (fun i _ => (intOf i + 1).toNat)
          case atStart => exact ⟨n, Nat.le_refl _, rfl, P2⟩
          case round =>
            rename World => wc
            obtain ⟨j, hj, rfl, PK⟩ := hrel
            clear P2
            cases j with
            | succ j =>
              have ej : ((j + 1 : Nat) : Int) - 1 = j := by omega
              rw [ej]
              have hjn : j < n := by omega
              have hjn' : (j : Int) < (n : Int) := by omega
              have h0j : (0 : Int) ≤ (j : Int) := by omega
              have cR := PK.out.cell hjn
              have hr := PK.out.recs j hjn
              have hfar := PK.out.far
              go_wp2_with fail
              refine (f8_any _ _ _ _ _ _ hr PK.out.srv (by omega) (by omega)).mono ?_
              rintro e w3 ⟨rfl, hr3, hs3, hA3⟩
              have P3 : Park w' w3 w'.heap.size t n n (reqOf m p C) (fun _ => true) (logTo (reqOf m p C) (setOf k B) n) := (PK.out.record (j := j) hr3 hs3 hA3).flags (fun q _ => by simp)
              have HP3 := hide P3
              clear P3 hr3 hs3 hA3 hr
              go_wp2_with fail
              exact ⟨⟨j, by omega, rfl, HP3⟩, by simp [intOf] <;> omega⟩
            | zero =>
              clear hj
              rw [show (((0 : Nat) : Int) - 1) = -1 from rfl]
              go_wp2_with fail
              go_loopw [16, 17] (fun kv iv wr => ∃ j : Nat, j ≤ n ∧ iv = .int .i64 j ∧ kv = .int .i64 (logTo (reqOf m p C) (setOf k B) j).length ∧ Hid (Park w' wr w'.heap.size t n n (reqOf m p C) (fun _ => true) (logTo (reqOf m p C) (setOf k B) n))) (fun _ iv _ => n - (intOf iv).toNat)
              case atStart => exact ⟨0, Nat.zero_le _, rfl, rfl, PK⟩
              case round =>
                clear PK
                rename World => wd
                obtain ⟨j, hj, rfl, rfl, PK⟩ := hrel
                by_cases hjn : j < n
                · have hjn' : (j : Int) < (n : Int) := by omega
                  have cR := PK.out.cell hjn
                  have hr := PK.out.recs j hjn
                  rcases hC with h0 | ⟨b, off, rfl, hb, hc⟩
                  · omega
                  have cI : wd.cell? ⟨b, off + j, none⟩ = some (.int .i64 (C j)) := (PK.out.bel.cell (p := ⟨b, _, none⟩) hb).trans (hc j hjn)
                  clear hc
                  have hlj := logTo_len (reqOf m p C) (setOf k B) j
                  have onFalse : setOf k B j = false → logTo (reqOf m p C) (setOf k B) (j + 1) = logTo (reqOf m p C) (setOf k B) j ++ [reqOf m p C j] := fun h => by
                    show logged (setOf k B j) _ _ = _
                    rw [h]; rfl
                  have onTrue : setOf k B j = true → logTo (reqOf m p C) (setOf k B) (j + 1) = logTo (reqOf m p C) (setOf k B) j := fun h => by
                    show logged (setOf k B j) _ _ = _
                    rw [h]; rfl
                  by_cases hjk : j < k
                  · have hjk' : (j : Int) < (k : Int) := by omega
                    rcases hB with h0 | ⟨b', off', rfl, hb', hc'⟩
                    · omega
                    have cB : wd.cell? ⟨b', off' + j, none⟩ = some (.bool (B j)) := (PK.out.bel.cell (p := ⟨b', _, none⟩) hb').trans (hc' j hjk)
                    have hT : setOf k B j = B j := by simp [setOf, hjk]
                    clear hc'
                    cases hBj : B j with
                    | true =>
                      rw [hBj] at cB hT
                      have hnext := hide (onTrue hT)
                      clear onTrue onFalse
                      go_wp2_with fail
                      refine (f9_any _ _ _ _ _ hr).mono ?_
                      rintro e w4 ⟨rfl, rfl⟩
                      go_wp2_with fail
                      go_roundw
                      case rel => exact ⟨j + 1, by omega, by go_num, by rw [hnext.out], PK⟩
                      case measure => simp [intOf] <;> omega
                    | false =>
                      rw [hBj] at cB hT
                      have hnext := onFalse hT
                      have hat := hide (logTo_at (reqOf m p C) (setOf k B) hjn hT)
                      have hless : (logTo (reqOf m p C) (setOf k B) j).length < (logTo (reqOf m p C) (setOf k B) n).length := (List.getElem?_eq_some_iff.1 hat.out).1
                      have k7 : decide (((logTo (reqOf m p C) (setOf k B) n).length : Int) ≤ ((logTo (reqOf m p C) (setOf k B) j).length : Int)) = false := by simp <;> omega
                      have hnext := hide hnext
                      clear onTrue onFalse
                      go_wp2_with fail
                      refine (f9_any _ _ _ _ _ hr).mono ?_
                      rintro e w4 ⟨rfl, rfl⟩
                      go_wp2_with fail
                      refine (f10_any _ _ _ PK.out.srv).mono ?_
                      rintro e w4 ⟨rfl, rfl⟩
                      go_wp2_with fail
                      refine (f11_any _ _ _ ⟨m, p, ⟨#[]⟩, ⟨#[]⟩, C j⟩ _ PK.out.srv hat.out).mono ?_
                      rintro e w5 ⟨rfl, hb5⟩
                      have HP5 := hide (PK.out.below hb5)
                      clear hb5
                      go_wp2_with fail
                      go_roundw
                      case rel => exact ⟨j + 1, by omega, by go_num, by rw [hnext.out]; simp, HP5⟩
                      case measure => simp [intOf] <;> omega
                  · have hjk' : (k : Int) ≤ (j : Int) := by omega
                    have hT : setOf k B j = false := by simp [setOf, hjk]
                    have hat := hide (logTo_at (reqOf m p C) (setOf k B) hjn hT)
                    have hless : (logTo (reqOf m p C) (setOf k B) j).length < (logTo (reqOf m p C) (setOf k B) n).length := (List.getElem?_eq_some_iff.1 hat.out).1
                    have k7 : decide (((logTo (reqOf m p C) (setOf k B) n).length : Int) ≤ ((logTo (reqOf m p C) (setOf k B) j).length : Int)) = false := by simp <;> omega
                    have hnext := hide (onFalse hT)
                    clear onTrue onFalse
                    go_wp2_with fail
                    refine (f9_any _ _ _ _ _ hr).mono ?_
                    rintro e w4 ⟨rfl, rfl⟩
                    go_wp2_with fail
                    refine (f10_any _ _ _ PK.out.srv).mono ?_
                    rintro e w4 ⟨rfl, rfl⟩
                    go_wp2_with fail
                    refine (f11_any _ _ _ ⟨m, p, ⟨#[]⟩, ⟨#[]⟩, C j⟩ _ PK.out.srv hat.out).mono ?_
                    rintro e w5 ⟨rfl, hb5⟩
                    have HP5 := hide (PK.out.below hb5)
                    clear hb5
                    go_wp2_with fail
                    go_roundw
                    case rel => exact ⟨j + 1, by omega, by go_num, by rw [hnext.out]; simp, HP5⟩
                    case measure => simp [intOf] <;> omega
                · have hjn' : (n : Int) ≤ (j : Int) := by omega
                  obtain rfl : n = j := by omega
                  go_wp2_with fail
                  refine (f10_any _ _ _ PK.out.srv).mono ?_
                  rintro e w4 ⟨rfl, rfl⟩
                  go_wp2_with fail
                  go_ret
                  exact ⟨by simp, PK.out.bel⟩
end Go.Proofs.Qxb6605618aGreat
