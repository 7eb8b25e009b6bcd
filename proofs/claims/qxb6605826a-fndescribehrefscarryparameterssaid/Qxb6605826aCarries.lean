/-
  zzHrefCarries: an href is read back.
-/
import Derived.Test.Qxb6605826aQuery
import Derived.Test.Qxb6605826aReadable
namespace Go.Proofs.Qxb6605826a
open Go.RowKit

def pathL : List UInt8 := [47, 115, 111, 108, 97, 110, 97, 47, 97, 99, 116, 105, 111, 110, 115, 47]
/-- name={name} -/
def pieceL (s : ByteArray) : List UInt8 := s.data.toList ++ 61 :: (123 :: s.data.toList ++ [125])
/-- choice=id -/
def choiceL (s : ByteArray) : List UInt8 := [99, 104, 111, 105, 99, 101] ++ 61 :: s.data.toList
def pieces (isC : Bool) (cid : ByteArray) (ni : Nat) (I : Nat → Inp) : List (List UInt8) := (if isC then [choiceL cid] else []) ++ (List.range ni).map fun j => pieceL (I j).name

/-- The parameters' names in world w. -/
def ParAt (w : World) (po : Option Addr) (n : Nat) (I : Nat → Inp) : Prop :=
  n = 0 ∨ ∃ b off, po = some ⟨b, off, none⟩ ∧ b < w.heap.size ∧ ∀ i, i < n → w.cell? ⟨b, off + i * 3, none⟩ = some (.string (I i).name)

theorem cut_at {s : ByteArray} {a b : List UInt8} (h : s.data.toList = a ++ b) : (s.extract 0 a.length).data.toList = a ∧ (s.extract a.length s.size).data.toList = b ∧ s.size = a.length + b.length := by
  have hs : s.size = a.length + b.length := by rw [← size_toList, h, List.length_append]
  refine ⟨?_, ?_, hs⟩
  · rw [Lib.extract_data, h]; simp
  · rw [Lib.extract_data, h, hs]; simp
theorem cut_head {s : ByteArray} {a b : List UInt8} (h : s.data.toList = a ++ b) {n : Nat} (hn : n = a.length) : ((s.extract 0 n).toList == a) = true := by
  subst hn; rw [Lib.toList_data, (cut_at h).1]; simp
theorem cut_head' {s t : ByteArray} {b : List UInt8} (h : s.data.toList = t.data.toList ++ b) {n : Nat} (hn : n = t.size) : ((s.extract 0 n).toList == t.toList) = true := by
  rw [Lib.toList_data t]; exact cut_head h hn
theorem cut_tail {s : ByteArray} {a b : List UInt8} (h : s.data.toList = a ++ b) {n : Nat} (hn : n = a.length) : (s.extract n s.size).data.toList = b := by
  subst hn; exact (cut_at h).2.1

theorem pieces_plain (cid : ByteArray) (ni : Nat) (I : Nat → Inp) : (pieces false cid ni I).length = ni ∧ ∀ k, k < ni → (pieces false cid ni I)[k]? = some (pieceL (I k).name) := by
  refine ⟨by simp [pieces], fun k hk => by simp [pieces, hk]⟩

/-- A byte of the query, as the walk reads it. -/
theorem q_byte {q : ByteArray} {l : List UInt8} (hq : q.data.toList = l) {j : Nat} (hj : j < q.size) {c : UInt8} (h : l[j]? = some c) : q[j]'hj = c := by
  have := byte_at q j hj
  rw [hq, h] at this
  exact (Option.some.inj this).symm
theorem not_amp {s : ByteArray} (h : 38 ∉ s.data.toList) : 38 ∉ pieceL s := by
  simp only [pieceL, List.mem_append, List.mem_cons]
  rintro (h' | h' | h')
  · exact h h'
  · exact absurd h' (by decide)
  · rcases h' with (h' | h') | h'
    · exact absurd h' (by decide)
    · exact h h'
    · simp at h'
theorem amp_no {p : List UInt8} (h : 38 ∉ p) {j : Nat} {c : UInt8} (hj : p[j]? = some c) : ((c.toNat : Int) == 38) = false := by
  have : c ≠ 38 := by rintro rfl; exact h (List.mem_of_getElem? hj)
  exact u8_ne this

set_option maxRecDepth 100000 in
set_option maxHeartbeats 2000000 in
theorem f10_plain (h id cid : ByteArray) (po : Option Addr) (ni pc : Nat) (I : Nat → Inp) (w : World) (hh : h.data.toList = pathL ++ (id.data.toList ++ 63 :: Lib.join (pieces false cid ni I) [38])) (h0 : 0 < ni) (hid : 63 ∉ id.data.toList)
    (hin : ∀ j, j < ni → 61 ∉ (I j).name.data.toList ∧ 38 ∉ (I j).name.data.toList) (hni : ni ≤ 4096) (hsz : h.size ≤ 1099511627776) (hP : ParAt w po ni I) :
    Calls Try.prog 10 #[.string h, .string id, .bool false, .string cid, .slice po ni pc] w fun e w' => e = .returned (.bool true) ∧ w' = w := by
  have s1 := (cut_at hh).2.2
  rw [show pathL.length = 16 from rfl] at s1
  have s16 : (16 : Int) ≤ (h.size : Int) := by omega
  have e1 : ((h.extract 0 16).toList == [47, 115, 111, 108, 97, 110, 97, 47, 97, 99, 116, 105, 111, 110, 115, 47]) = true := cut_head hh rfl
  have hr := cut_tail hh (n := 16) rfl
  have hrs : (h.extract 16 h.size).size + 16 = h.size := by rw [← size_toList, hr, s1]; omega
  generalize hrr : h.extract 16 h.size = r at hr hrs
  have e2 : indexOf r.data.toList 63 = id.size := by rw [hr]; exact indexOf_app hid
  have e3 : ((r.extract 0 id.size).toList == id.toList) = true := cut_head' hr rfl
  have s3 := (cut_at hr).2.2
  have hr' : r.data.toList = (id.data.toList ++ [63]) ++ Lib.join (pieces false cid ni I) [38] := by rw [hr]; simp
  have hq := cut_tail hr' (n := id.size + 1) (by simp)
  have s4 : (r.extract (id.size + 1) r.size).size = (Lib.join (pieces false cid ni I) [38]).length := by rw [← size_toList, hq]
  have s5 : id.size + 1 ≤ r.size := by rw [s3, size_toList]; simp
  have s8 : (r.extract (id.size + 1) r.size).size ≤ 1099511627776 := by rw [s4]; rw [List.length_cons] at s3; omega
  generalize hqq : r.extract (id.size + 1) r.size = q at hq s4 s8
  have HP := hide hP
  have HN := hide hin
  have HQ := hide hq
  have HE := hide e2
  have HS := hide s4
  clear hP hin hh hr hr' hq s3 e2 s1 s4
  go_enter Try.func10, Try.ntmps10
  go_wp2_with fail
  refine (f13_any r 63 w (by omega)).mono ?_
  rintro e w1 ⟨rfl, rfl⟩
  rw [HE.out]
  have s5' : (id.size : Int) + 1 ≤ (r.size : Int) := by omega
  have s6' : (id.size : Int) ≤ (r.size : Int) := by omega
  have s7' : (r.size : Int) ≤ 1099511627776 := by omega
  go_wp2_with fail
  have hlen := (pieces_plain cid ni I).1
  have hget := (pieces_plain cid ni I).2
  generalize pieces false cid ni I = xs at HQ HS hlen hget
  have hne : xs ≠ [] := by rintro rfl; simp at hlen; omega
  have hql : q.size + 1 = off xs ni := by rw [HS.out, query_len hne, hlen]
  have HG := hide hget
  have HL := hide hlen
  clear hget hlen e1 e3 hrr hqq
  go_loopw [15, 16] (fun p st wr => ∃ k : Nat, k ≤ ni ∧ p = .int .i64 k ∧ st = .int .i64 (off xs k) ∧ wr = w1) (fun p _ _ => ni - (intOf p).toNat)
  case atStart => exact ⟨0, Nat.zero_le _, rfl, rfl, rfl⟩
  case round =>
    obtain ⟨k, hk, rfl, rfl, rfl⟩ := hrel
    rename World => w1
    by_cases hlt : k < ni
    · have hp := HG.out k hlt
      have hin := piece_in hp
      rw [← HS.out] at hin
      have hsu := off_succ hp
      obtain ⟨h61, h38⟩ := HN.out k hlt
      have h38' := not_amp h38
      have hB : ∀ i, i < (pieceL (I k).name).length → ∀ c, q.data.toList[off xs k + i]? = some c → ((c.toNat : Int) == 38) = false := fun i hi c hc => by
        rw [HQ.out, piece_byte hp hi] at hc
        exact amp_no h38' hc
      have hEnd : off xs k + (pieceL (I k).name).length < q.size → q.data.toList[off xs k + (pieceL (I k).name).length]? = some 38 := fun hlt => by
        rw [HQ.out]
        exact piece_end hp (by rw [← HS.out]; exact hlt)
      have hsub : ((q.extract (off xs k) (off xs k + (pieceL (I k).name).length)).data.toList) = pieceL (I k).name := by
        rw [Lib.extract_data, HQ.out, show off xs k + (pieceL (I k).name).length - off xs k = (pieceL (I k).name).length by omega]
        exact piece_sub hp
      generalize off xs k = o at *
      generalize hpl : (pieceL (I k).name).length = n at *
      have hB := hide hB
      have hEnd := hide hEnd
      clear hp
      have hin' : (o : Int) ≤ (q.size : Int) := by omega
      go_wp2_with fail
      go_loopw [17] (fun e wr => ∃ j : Nat, o ≤ j ∧ j ≤ o + n ∧ e = .int .i64 j ∧ wr = w1) (fun e _ => o + n - (intOf e).toNat)
      case atStart => exact ⟨o, Nat.le_refl _, Nat.le_add_right _ _, rfl, rfl⟩
      case round =>
        obtain ⟨j, hj1, hj2, rfl, rfl⟩ := hrel
        rename World => w1
        by_cases hjn : j < o + n
        · have hjq : j < q.size := by omega
          have hjq' : (j : Int) < (q.size : Int) := by omega
          obtain ⟨i, rfl⟩ := Nat.exists_eq_add_of_le hj1
          have kc := hB.out i (by omega) _ (byte_at q _ hjq)
          generalize o + i = j at *
          go_wp2_with fail
          go_roundw
          case rel => exact ⟨j + 1, by omega, by omega, by go_num, trivial⟩
          case measure => simp [intOf] <;> omega
        · obtain rfl : j = o + n := by omega
          clear hB
          generalize hP : q.extract o (o + n) = P at *
          have x1 : indexOf P.data.toList 61 = (I k).name.size := by rw [hsub]; exact indexOf_app h61
          have x2 := cut_head' hsub rfl
          have x3 := cut_tail (a := (I k).name.data.toList ++ [61]) (b := 123 :: (I k).name.data.toList ++ [125]) (hsub.trans (by simp [pieceL])) (n := (I k).name.size + 1) (by simp)
          have x4 : P.size = n := by rw [← size_toList, hsub, hpl]
          have x6 : ((P.extract ((I k).name.size + 1) n).toList == ((⟨#[123]⟩ : ByteArray) ++ (I k).name ++ ⟨#[125]⟩).toList) = true := by
            rw [x4] at x3
            rw [Lib.toList_data, Lib.toList_data, x3, ByteArray.data_append, ByteArray.data_append]
            simp
          have x5 : (I k).name.size + 1 ≤ n := by rw [← hpl]; simp [pieceL]
          have hc : (q.size : Int) ≤ (o : Int) + n ∨ ∃ hend : o + n < q.size, q[o + n]'hend = 38 := by
            by_cases hend : o + n < q.size
            · exact .inr ⟨hend, q_byte rfl hend (hEnd.out hend)⟩
            · exact .inl (by omega)
          clear hEnd
          rcases HP.out with hP0 | ⟨b, off0, rfl, hb, hcell⟩
          · omega
          have d0 := hcell k hlt
          clear hcell
          have hlt' : (k : Int) < (ni : Int) := by omega
          have z2 : ((I k).name.size : Int) ≤ (P.size : Int) := by omega
          have z3 : ((I k).name.size : Int) + 1 ≤ (P.size : Int) := by omega
          have z4 : (P.size : Int) ≤ 1099511627776 := by omega
          rcases hc with hc | ⟨hend, kc⟩
          all_goals go_wp2_with fail
          all_goals refine (f13_any P 61 _ (by omega)).mono ?_
          all_goals rintro e w2 ⟨rfl, rfl⟩
          all_goals rw [x1]
          all_goals go_wp2_with fail
          all_goals go_roundw
          case rel => exact ⟨k + 1, by omega, by go_num, by rw [hsu]; go_num, trivial⟩
          case rel => exact ⟨k + 1, by omega, by go_num, by rw [hsu]; go_num, trivial⟩
          case measure => simp [intOf] <;> omega
          case measure => simp [intOf] <;> omega
    · obtain rfl : ni = k := by omega
      have hgt : (q.size : Int) < (off xs ni : Int) := by omega
      go_wp2_with fail
      go_ret
      simp
end Go.Proofs.Qxb6605826a
