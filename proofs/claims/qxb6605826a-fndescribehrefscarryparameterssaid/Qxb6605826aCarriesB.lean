/-
  zzHrefCarries: the href of a choice is read back.
-/
import Derived.Test.Qxb6605826aCarries
namespace Go.Proofs.Qxb6605826a
open Go.RowKit

theorem pieces_choice (cid : ByteArray) (ni : Nat) (I : Nat → Inp) : (pieces true cid ni I).length = ni + 1 ∧ (pieces true cid ni I)[0]? = some (choiceL cid) ∧ ∀ k, k < ni → (pieces true cid ni I)[k + 1]? = some (pieceL (I k).name) := by
  refine ⟨by simp [pieces], by simp [pieces], fun k hk => by simp [pieces, hk]⟩
theorem not_amp_choice {s : ByteArray} (h : 38 ∉ s.data.toList) : 38 ∉ choiceL s := by
  simp only [choiceL, List.mem_append, List.mem_cons]
  rintro (h' | h' | h')
  · simp at h'
  · exact absurd h' (by decide)
  · exact h h'
theorem pieces_kinds (cid : ByteArray) (ni : Nat) (I : Nat → Inp) (hc : 38 ∉ cid.data.toList) (hin : ∀ j, j < ni → 61 ∉ (I j).name.data.toList ∧ 38 ∉ (I j).name.data.toList) : ∀ k, k < ni + 1 → ∃ p, (pieces true cid ni I)[k]? = some p ∧ 38 ∉ p ∧ ((k = 0 ∧ p = choiceL cid) ∨ ∃ m, k = m + 1 ∧ m < ni ∧ p = pieceL (I m).name ∧ 61 ∉ (I m).name.data.toList)
  | 0, _ => ⟨_, (pieces_choice cid ni I).2.1, not_amp_choice hc, .inl ⟨rfl, rfl⟩⟩
  | m + 1, h => ⟨_, (pieces_choice cid ni I).2.2 m (by omega), not_amp (hin m (by omega)).2, .inr ⟨m, rfl, by omega, rfl, (hin m (by omega)).1⟩⟩

set_option maxRecDepth 100000 in
set_option maxHeartbeats 4000000 in
theorem f10_choice (h id cid : ByteArray) (po : Option Addr) (ni pc : Nat) (I : Nat → Inp) (w : World) (hh : h.data.toList = pathL ++ (id.data.toList ++ 63 :: Lib.join (pieces true cid ni I) [38])) (hcid : 38 ∉ cid.data.toList) (hid : 63 ∉ id.data.toList)
    (hin : ∀ j, j < ni → 61 ∉ (I j).name.data.toList ∧ 38 ∉ (I j).name.data.toList) (hni : ni ≤ 4096) (hsz : h.size ≤ 1099511627776) (hP : ParAt w po ni I) :
    Calls Try.prog 10 #[.string h, .string id, .bool true, .string cid, .slice po ni pc] w fun e w' => e = .returned (.bool true) ∧ w' = w := by
  have s1 := (cut_at hh).2.2
  rw [show pathL.length = 16 from rfl] at s1
  have s16 : (16 : Int) ≤ (h.size : Int) := by omega
  have e1 : ((h.extract 0 16).toList == [47, 115, 111, 108, 97, 110, 97, 47, 97, 99, 116, 105, 111, 110, 115, 47]) = true := cut_head hh rfl
  have hr := cut_tail hh (n := 16) rfl
  have hrs : (h.extract 16 h.size).size + 16 = h.size := by rw [← size_toList, hr, s1]; omega
  generalize hrr : h.extract 16 h.size = r at hr hrs
  have e2 : indexOf r.data.toList 63 = id.size := by rw [hr]; exact indexOf_app hid
  have e3 : ((r.extract 0 id.size).toList == id.toList) = true := cut_head' hr rfl
  have s3 := (cut_at hr).2.2
  have hr' : r.data.toList = (id.data.toList ++ [63]) ++ Lib.join (pieces true cid ni I) [38] := by rw [hr]; simp
  have hq := cut_tail hr' (n := id.size + 1) (by simp)
  have s4 : (r.extract (id.size + 1) r.size).size = (Lib.join (pieces true cid ni I) [38]).length := by rw [← size_toList, hq]
  have s5 : id.size + 1 ≤ r.size := by rw [s3, size_toList]; simp
  have s8 : (r.extract (id.size + 1) r.size).size ≤ 1099511627776 := by rw [s4]; rw [List.length_cons] at s3; omega
  generalize hqq : r.extract (id.size + 1) r.size = q at hq s4 s8
  have HP := hide hP
  have HN := hide hin
  have HQ := hide hq
  have HE := hide e2
  have HS := hide s4
  clear hP hin hh hr hr' hq s3 e2 s1 s4
  go_enter Try.func10, Try.ntmps10
  go_wp2_with fail
  refine (f13_any r 63 w (by omega)).mono ?_
  rintro e w1 ⟨rfl, rfl⟩
  rw [HE.out]
  have s5' : (id.size : Int) + 1 ≤ (r.size : Int) := by omega
  have s6' : (id.size : Int) ≤ (r.size : Int) := by omega
  have s7' : (r.size : Int) ≤ 1099511627776 := by omega
  go_wp2_with fail
  have hlen := (pieces_choice cid ni I).1
  have hget := pieces_kinds cid ni I hcid HN.out
  generalize pieces true cid ni I = xs at HQ HS hlen hget
  have hne : xs ≠ [] := by rintro rfl; simp at hlen
  have hql : q.size + 1 = off xs (ni + 1) := by rw [HS.out, query_len hne, hlen]
  have HG := hide hget
  have HL := hide hlen
  clear hget hlen e1 e3 hrr hqq
  go_loopw [15, 16] (fun p st wr => ∃ k : Nat, k ≤ ni + 1 ∧ p = .int .i64 k ∧ st = .int .i64 (off xs k) ∧ wr = w1) (fun p _ _ => ni + 1 - (intOf p).toNat)
  case atStart => exact ⟨0, Nat.zero_le _, rfl, rfl, rfl⟩
  case round =>
    obtain ⟨k, hk, rfl, rfl, rfl⟩ := hrel
    rename World => w1
    by_cases hlt : k < ni + 1
    · obtain ⟨p, hp, h38', hkind⟩ := HG.out k hlt
      have hin := piece_in hp
      rw [← HS.out] at hin
      have hsu := off_succ hp
      have hB : ∀ i, i < p.length → ∀ c, q.data.toList[off xs k + i]? = some c → ((c.toNat : Int) == 38) = false := fun i hi c hc => by
        rw [HQ.out, piece_byte hp hi] at hc
        exact amp_no h38' hc
      have hEnd : off xs k + p.length < q.size → q.data.toList[off xs k + p.length]? = some 38 := fun hlt => by
        rw [HQ.out]
        exact piece_end hp (by rw [← HS.out]; exact hlt)
      have hsub : ((q.extract (off xs k) (off xs k + p.length)).data.toList) = p := by
        rw [Lib.extract_data, HQ.out, show off xs k + p.length - off xs k = p.length by omega]
        exact piece_sub hp
      generalize off xs k = o at *
      generalize hpl : p.length = n at *
      have hB := hide hB
      have hEnd := hide hEnd
      clear hp
      have hin' : (o : Int) ≤ (q.size : Int) := by omega
      go_wp2_with fail
      go_loopw [17] (fun e wr => ∃ j : Nat, o ≤ j ∧ j ≤ o + n ∧ e = .int .i64 j ∧ wr = w1) (fun e _ => o + n - (intOf e).toNat)
      case atStart => exact ⟨o, Nat.le_refl _, Nat.le_add_right _ _, rfl, rfl⟩
      case round =>
        obtain ⟨j, hj1, hj2, rfl, rfl⟩ := hrel
        rename World => w1
        by_cases hjn : j < o + n
        · have hjq : j < q.size := by omega
          have hjq' : (j : Int) < (q.size : Int) := by omega
          obtain ⟨i, rfl⟩ := Nat.exists_eq_add_of_le hj1
          have kc := hB.out i (by omega) _ (byte_at q _ hjq)
          generalize o + i = j at *
          go_wp2_with fail
          go_roundw
          case rel => exact ⟨j + 1, by omega, by omega, by go_num, trivial⟩
          case measure => simp [intOf] <;> omega
        · obtain rfl : j = o + n := by omega
          clear hB
          generalize hP : q.extract o (o + n) = P at *
          have x4 : P.size = n := by rw [← size_toList, hsub, hpl]
          have hc : (q.size : Int) ≤ (o : Int) + n ∨ ∃ hend : o + n < q.size, q[o + n]'hend = 38 := by
            by_cases hend : o + n < q.size
            · exact .inr ⟨hend, q_byte rfl hend (hEnd.out hend)⟩
            · exact .inl (by omega)
          clear hEnd
          have z4 : (P.size : Int) ≤ 1099511627776 := by omega
          rcases hkind with ⟨rfl, rfl⟩ | ⟨m, rfl, hm, rfl, h61⟩
          · have x1 : indexOf P.data.toList 61 = 6 := by rw [hsub]; exact indexOf_app (a := [99, 104, 111, 105, 99, 101]) (by decide)
            have x2 : ((P.extract 0 6).toList == [99, 104, 111, 105, 99, 101]) = true := cut_head hsub rfl
            have x3 := cut_tail (a := [99, 104, 111, 105, 99, 101, 61]) (b := cid.data.toList) (hsub.trans rfl) (n := 7) rfl
            have x5 : 7 ≤ n := by rw [← hpl]; simp [choiceL]
            have x6 : ((P.extract 7 n).toList == cid.toList) = true := by
              rw [x4] at x3
              rw [Lib.toList_data, Lib.toList_data, x3]
              simp
            have z2 : (7 : Int) ≤ (P.size : Int) := by omega
            rcases hc with hc | ⟨hend, kc⟩
            all_goals go_wp2_with fail
            all_goals refine (f13_any P 61 _ (by omega)).mono ?_
            all_goals rintro e w2 ⟨rfl, rfl⟩
            all_goals rw [x1]
            all_goals go_wp2_with fail
            all_goals go_roundw
            case rel => exact ⟨1, by omega, by go_num, by rw [hsu]; go_num, trivial⟩
            case rel => exact ⟨1, by omega, by go_num, by rw [hsu]; go_num, trivial⟩
            case measure => simp [intOf] <;> omega
            case measure => simp [intOf] <;> omega
          · have x1 : indexOf P.data.toList 61 = (I m).name.size := by rw [hsub]; exact indexOf_app h61
            have x2 := cut_head' hsub rfl
            have x3 := cut_tail (a := (I m).name.data.toList ++ [61]) (b := 123 :: (I m).name.data.toList ++ [125]) (hsub.trans (by simp [pieceL])) (n := (I m).name.size + 1) (by simp)
            have x6 : ((P.extract ((I m).name.size + 1) n).toList == ((⟨#[123]⟩ : ByteArray) ++ (I m).name ++ ⟨#[125]⟩).toList) = true := by
              rw [x4] at x3
              rw [Lib.toList_data, Lib.toList_data, x3, ByteArray.data_append, ByteArray.data_append]
              simp
            have x5 : (I m).name.size + 1 ≤ n := by rw [← hpl]; simp [pieceL]
            rcases HP.out with hP0 | ⟨b, off0, rfl, hb, hcell⟩
            · omega
            have d0 := hcell m hm
            clear hcell
            have hlt' : (m : Int) < (ni : Int) := by omega
            have z2 : ((I m).name.size : Int) ≤ (P.size : Int) := by omega
            have z3 : ((I m).name.size : Int) + 1 ≤ (P.size : Int) := by omega
            rcases hc with hc | ⟨hend, kc⟩
            all_goals go_wp2_with fail
            all_goals refine (f13_any P 61 _ (by omega)).mono ?_
            all_goals rintro e w2 ⟨rfl, rfl⟩
            all_goals rw [x1]
            all_goals go_wp2_with fail
            all_goals go_roundw
            case rel => exact ⟨m + 2, by omega, by go_num, by rw [hsu]; go_num, trivial⟩
            case rel => exact ⟨m + 2, by omega, by go_num, by rw [hsu]; go_num, trivial⟩
            case measure => simp [intOf] <;> omega
            case measure => simp [intOf] <;> omega
    · obtain rfl : k = ni + 1 := by omega
      have hgt : (q.size : Int) < (off xs (ni + 1) : Int) := by omega
      go_wp2_with fail
      go_ret
      simp
end Go.Proofs.Qxb6605826a
