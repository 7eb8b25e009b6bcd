/-
  copyMsg.
-/
import Derived.Test.Qxb6614540aViewG
namespace Go.Proofs.Qxb6614540a.V
open Go.RowKit

theorem info82 : (Try.prog.info? 82).map (fun i => (i.zero, i.size, i.bytes)) = some (some (.agg #[.int .u64 0, .string ByteArray.empty, .bool false, .int .u8 0, .pointer none, .int .u64 0]), 6, 48) := by kernel_rfl

/-- What copyMsg answers. -/
def CopyRes (w : World) (h : Hd) (ao : Option Addr) (es : List En) (e : Ending) (w' : World) : Prop :=
  ∃ ao2 cap2, e = .returned (.agg (msg h (.slice ao2 es.length cap2))) ∧ ao2.isNone = ao.isNone ∧ EntsAt w' (Old w') (Old w') ao2 es ∧ Below w.heap.size w w'

theorem EntsAt.nil_len {w : World} {C S : Nat → Prop} {es : List En} (h : EntsAt w C S none es) : es = [] := by
  rcases h with h | ⟨b, off, h, _⟩
  · exact h
  · cases h

theorem msg_one (h : Hd) (v : Value) (hv : v.oneCell' = true) : (msg h v).all (·.oneCell') = true := by
  rw [Array.all_eq_true_iff_forall_mem]
  intro x hx
  simp at hx
  rcases hx with rfl | rfl | rfl | rfl | rfl | rfl | rfl | rfl | rfl | rfl | rfl | rfl | rfl | rfl | rfl | rfl | rfl | rfl | rfl | rfl <;> first | exact hv | rfl
theorem alloc3_new (w : World) (o0 o1 o2 : Obj) : (((w.alloc o0).alloc o1).alloc o2).heap[w.heap.size + 1 + 1]? = some o2 := by
  have := heap_alloc_new ((w.alloc o0).alloc o1) o2
  rwa [World.size_alloc, World.size_alloc] at this

theorem size56 : (Try.prog.info? 56).map (·.size) = some 5 := by kernel_rfl
theorem size82 : (Try.prog.info? 82).map (·.size) = some 6 := by kernel_rfl
theorem one56 (i t : Int) (x : Option Addr) (l c : Nat) (b : Bool) (y : Option Addr) (l2 c2 : Nat) : (#[Value.int .u64 i, .int .u64 t, .slice x l c, .bool b, .slice y l2 c2]).all (·.oneCell') = true := by simp [Value.oneCell']
theorem one82 (i : Int) (s : ByteArray) (b : Bool) (p : Int) (x : Option Addr) (c : Int) : (#[Value.int .u64 i, .string s, .bool b, .int .u8 p, .pointer x, .int .u64 c]).all (·.oneCell') = true := by simp [Value.oneCell']
theorem two_allocs (w : World) (o o' : Obj) : Below w.heap.size w ((w.alloc o).alloc o') := ((Below.refl _ _).alloc (Nat.le_refl _) _).alloc (by simp) _
theorem cell2_new (w : World) (o : Obj) (cs : Array Value) (t : TypeId) (j : Nat) : ((w.alloc o).alloc (.cells cs t)).cell? ⟨w.heap.size + 1, j, none⟩ = cs[j]? := by
  have := World.cell?_alloc_new (w.alloc o) cs t j
  rwa [World.size_alloc] at this
theorem frozen2_new (w : World) (o : Obj) (cs : Array Value) (t : TypeId) (j : Nat) : ((w.alloc o).alloc (.cells cs t)).frozen? ⟨w.heap.size + 1, j, none⟩ = false := by
  have := World.frozen?_alloc_new (w.alloc o) cs t j
  rwa [World.size_alloc] at this
theorem cell2_old (w : World) (cs : Array Value) (t : TypeId) (o : Obj) (j : Nat) : ((w.alloc (.cells cs t)).alloc o).cell? ⟨w.heap.size, j, none⟩ = cs[j]? := by
  rw [World.cell?_alloc_lt _ _ _ (by simp)]
  exact World.cell?_alloc_new w cs t j

theorem three_allocs (w : World) (o o' o'' : Obj) : Below w.heap.size w (((w.alloc o).alloc o').alloc o'') := (two_allocs w o o').alloc (by simp; omega) _
theorem cell3_new (w : World) (o o' : Obj) (cs : Array Value) (t : TypeId) (j : Nat) : (((w.alloc o).alloc o').alloc (.cells cs t)).cell? ⟨w.heap.size + 1 + 1, j, none⟩ = cs[j]? := by
  have := World.cell?_alloc_new ((w.alloc o).alloc o') cs t j
  rwa [World.size_alloc, World.size_alloc] at this

theorem start3 {w w1 : World} {o0 o1 o2 : Obj} (hg : (((w.alloc o0).alloc o1).alloc o2).grownBy w1 (some (w.heap.size + 1 + 1))) :
    Below w.heap.size w w1 ∧ w1.heap[w.heap.size]? = some o0 ∧ w1.heap[w.heap.size + 1]? = some o1 ∧ w.heap.size + 3 ≤ w1.heap.size := by
  have hs : w.heap.size + 3 ≤ w1.heap.size := by have := hg.size; simpa using this
  refine ⟨?_, ?_, ?_, hs⟩
  · exact ((((Below.refl _ _).alloc (Nat.le_refl _) _).alloc (by simp) _).alloc (by simp; omega) _).grown hg (by simp; omega) (fun k hk => by cases hk; omega)
  · rw [hg.block _ (by simp; omega) (by simp; omega), Below.heap_alloc _ _ _ (by simp; omega)]; exact heap_alloc2_old _ _ _
  · rw [hg.block _ (by simp) (by simp), Below.heap_alloc _ _ _ (by simp)]; exact heap_alloc2_new _ _ _

set_option maxRecDepth 100000 in
set_option maxHeartbeats 2000000 in
theorem f20_any (h : Hd) (ao : Option Addr) (cap : Nat) (es : List En) (w : World) (hm : EntsAt w (Old w) (Old w) ao es) (hf : Fits es) :
    Calls Try.prog 20 #[.agg (msg h (.slice ao es.length cap))] w fun e w' => CopyRes w h ao es e w' := by
  obtain ⟨n, hes⟩ : ∃ n, es.length = n := ⟨_, rfl⟩
  rw [hes]
  have HN := hide hes
  have hn65 : n ≤ 65536 := hes ▸ hf.n
  clear hes
  obtain ⟨i0, hi, hz0, hz1, hz2⟩ := info_parts info56
  obtain ⟨i8, hi8, hy0, hy1, hy2⟩ := info_parts info82
  have HI8 := hide hi8
  clear hi8
  have HI := hide hi
  clear hi
  obtain ⟨M0, hM0⟩ : ∃ M0, M0 = msg h (.slice none 0 0) := ⟨_, rfl⟩
  have HM0 := hide hM0
  have HMs : Hid (M0.size = 20) := by rw [hM0]; rfl
  have HMa : Hid (M0.all (·.oneCell') = true) := by rw [hM0]; exact msg_one h _ rfl
  clear hM0
  go_enter Try.func20, Try.ntmps20
  go_wp2_with (first | (refine wpList_buildTo rfl 49 _ rfl (some 51) rfl M0 (by rw [HM0.out]; kernel_rfl) ?_) | (refine wpList_store_abs rfl 49 (.tmp 3) (.tmp 51) rfl (w.heap.size + 1 + 1) M0 rfl rfl 49 zero49 ?s1 ?s2 ?s3 ?s4 ?_))
  case s1 => exact alloc3_new _ _ _ _
  case s2 => rw [HMs.out]; exact size49
  case s3 => rw [HMs.out]; rfl
  case s4 => exact HMa.out
  intro w1 hb1 hg1
  obtain ⟨hB1, hk0, hk1, hsz⟩ := start3 hg1
  have HB1 := hide hb1
  have HK0 := hide hk0
  have HK1 := hide hk1
  have c11 : w1.cell? ⟨w.heap.size, 11, none⟩ = some (.slice ao n cap) := (cell_of_row w1 _ 11 _ 42 _ hk0).trans rfl
  clear hb1 hk0 hk1 hg1
  rcases ao with _ | a
  · obtain rfl := hm.nil_len
    obtain rfl : 0 = n := HN.out
    go_wp2_with (first | (refine wpList_load_row rfl 49 (.tmp 3) rfl (w.heap.size + 1 + 1) rfl 49 M0 (0, 0) _ HB1.out Try.underlying49 rfl (by rw [HMs.out]; exact size49) ?_) | (refine wpList_store_abs rfl 49 (.tmp 2) (.tmp 136) rfl (w.heap.size + 1) M0 rfl rfl 49 zero49 HK1.out (by rw [HMs.out]; exact size49) (by rw [HMs.out]; rfl) HMa.out ?_))
    intro w5 hb5 hg5
    have hB5 : Below w.heap.size w w5 := hB1.grown hg5 hB1.size (fun b hb => by cases hb; omega)
    have HB5 := hide hb5
    clear hb5 hg5
    go_wp2_with fail
    refine bodyPost_ret (v := .agg M0) (results_cell_row Try.results20 _ _ (w.heap.size + 1) 49 M0 (0, 0) _ rfl HB5.out Try.underlying49 rfl (by rw [HMs.out]; exact size49)) rfl ⟨none, 0, ?_, rfl, .inl rfl, hB5⟩
    rw [HM0.out]; rfl
  · go_wp2_with (refine wpList_make_full _ rfl (.tmp 57) (.tmp 57) 47 rfl (w.heap.size + 3) 56 i0 _ 5 Try.underlying47 HI.out hz0 hz1 .i64 .i64 _ _ n rfl rfl rfl rfl (by rw [hz2]; omega) (by unfold maxLen; omega) hsz ?_)
    intro w2 hown hgrow
    have hE0 : Ents w w2 w1.heap.size n 0 es := ⟨hB1.grown hgrow hB1.size (fun k hk => by cases hk), hsz, (hown.lt w1.heap.size rfl).2, there_own hown, fun i e hi => by omega⟩
    have q11 : w2.cell? ⟨w.heap.size, 11, none⟩ = some (.slice (some a) n cap) := cell_same (hgrow.block _ (by omega) (by simp)) c11
    have HK : Hid (w2.heap[w.heap.size + 1]? = some (.cells zero49 49 (0, 0)) ∧ w2.heap[w.heap.size + 1 + 1]? = some (.cells M0 49 (0, 0))) :=
      ⟨(hgrow.block _ (by omega) (by simp)).trans HK1.out, (hgrow.block _ (by omega) (by simp)).trans HB1.out⟩
    obtain ⟨g, hg⟩ : ∃ g, g = w1.heap.size := ⟨_, rfl⟩
    rw [← hg] at hE0 ⊢
    clear hown hgrow HK1 HB1 HK0 c11 hg hsz hB1
    go_wp2_with fail
    go_loopw [5] (fun i wr => ∃ k : Nat, k ≤ n ∧ i = .int .i64 k ∧ wr.cell? ⟨w.heap.size, 11, none⟩ = some (.slice (some a) n cap) ∧ Ents w wr g n k es ∧ Hid (wr.heap[w.heap.size + 1]? = some (.cells zero49 49 (0, 0)) ∧ wr.heap[w.heap.size + 1 + 1]? = some (.cells M0 49 (0, 0)))) (fun i _ => n - (intOf i).toNat)
    case atStart => exact ⟨0, Nat.zero_le _, rfl, q11, hE0, HK⟩
    case round =>
      rename World => wa
      obtain ⟨k, hk, rfl, m11, hE, hK⟩ := hrel
      by_cases hlt : k < n
      · obtain ⟨e, he⟩ : ∃ e, es[k]? = some e := ⟨_, List.getElem?_eq_getElem (by rw [HN.out]; exact hlt)⟩
        have hbel := hE.below
        rcases hm with hm | ⟨b, off, ha, hb, hc⟩
        · simp [hm] at he
        cases ha
        obtain ⟨ca, cc, ma, mc, c0, c1, c2, c3, c4, hwi⟩ := hc k _ he
        replace c0 := (hbel.cell (p := ⟨b, _, none⟩) hb).trans c0
        replace c1 := (hbel.cell (p := ⟨b, _, none⟩) hb).trans c1
        replace c2 := (hbel.cell (p := ⟨b, _, none⟩) hb).trans c2
        replace c3 := (hbel.cell (p := ⟨b, _, none⟩) hb).trans c3
        replace c4 := (hbel.cell (p := ⟨b, _, none⟩) hb).trans c4
        have hcl := hf.cmd k e he
        have hml := hf.mem k e he
        have hbw : b < wa.heap.size := Nat.lt_of_lt_of_le hb hbel.size
        have hgl := hE.lt
        have hgg := hE.ge
        have l0 : w.heap.size < wa.heap.size := by omega
        have hlt' : (k : Int) < (n : Int) := by omega
        have HW := hide hwi
        have HE := hide he
        clear he hc hwi
        have HX2 := hide (two_allocs wa (.cells #[.int .u64 e.index, .int .u64 e.term, .slice ca e.cmd.length cc, .bool e.noop, .slice ma e.mem.length mc] 76) (.cells #[.int .u64 e.index, .int .u64 e.term, .slice none 0 0, .bool e.noop, .slice none 0 0] 56))
        have hcmd := hide ((HW.out.cmd.below hbel).below HX2.out)
        go_wp2_with fail
        refine (f30_any ca cc e.cmd _ hcmd.out hcl).mono ?_
        rintro e1 w3 ⟨ca2, cc2, rfl, hcN, hcb, hb3⟩
        simp only [World.size_alloc] at hb3 hcb
        have hs3 : wa.heap.size + 2 ≤ w3.heap.size := by have := hb3.size; simpa using this
        have x4 := (hb3.cell (p := ⟨wa.heap.size, 4, none⟩) (by simp; omega)).trans (cell2_old _ _ _ _ _)
        have y0 := (hb3.cell (p := ⟨wa.heap.size + 1, 0, none⟩) (by simp)).trans (cell2_new _ _ _ _ _)
        have y1 := (hb3.cell (p := ⟨wa.heap.size + 1, 1, none⟩) (by simp)).trans (cell2_new _ _ _ _ _)
        have y2 := (hb3.cell (p := ⟨wa.heap.size + 1, 2, none⟩) (by simp)).trans (cell2_new _ _ _ _ _)
        have y3 := (hb3.cell (p := ⟨wa.heap.size + 1, 3, none⟩) (by simp)).trans (cell2_new _ _ _ _ _)
        have y4 := (hb3.cell (p := ⟨wa.heap.size + 1, 4, none⟩) (by simp)).trans (cell2_new _ _ _ _ _)
        have yf : ∀ j, w3.frozen? ⟨wa.heap.size + 1, j, none⟩ = false := fun j => (hb3.frozen (p := ⟨wa.heap.size + 1, j, none⟩) (by simp)).trans (frozen2_new _ _ _ _ _)
        simp at x4 y0 y1 y2 y3 y4
        have hB3 : ∀ v, Below wa.heap.size wa (w3.setCell ⟨wa.heap.size + 1, 2, none⟩ v) := fun v => (HX2.out.trans (hb3.mono (by omega))).setCell (p := ⟨wa.heap.size + 1, 2, none⟩) (by simp) v
        have HB3 := hide hB3
        have HT : Hid (∀ v, (w3.setCell ⟨wa.heap.size + 1, 2, none⟩ v).there g (k * 5) 5) := fun v => there_sub (there_keep hE.there ((hB3 v).block g hgl)) (by omega)
        have HC := hide hcb
        clear c0 c1 c2 c3 c4 hcb hb3 hB3 HX2 hcmd
        rcases ma with _ | am
        · have hm0 : e.mem = [] := by
            rcases HW.out.mem with hh | ⟨_, _, hh, _⟩
            · exact hh
            · cases hh
          go_wp2_with (refine wpList_store_put rfl 56 (.tmp 133) (.tmp 132) rfl g (k * 5) #[.int .u64 e.index, .int .u64 e.term, .slice ca2 e.cmd.length cc2, .bool e.noop, .slice none 0 0] rfl rfl (HT.out _) size56 (one56 _ _ _ _ _ _ _ _ _) ?_)
          intro w9 hput
          have hE9 : Ents w w9 g n (k + 1) es := hE.step HE.out (HB3.out _) (ca := ca2) (cc := cc2) (ma := none) (mc := 0) (by rw [hm0]; exact hput)
            ⟨HC.out.move (fun b hb => heap_setCell_other _ _ _ _ (by have := hb.ge; simp; omega)) (fun b hb => ⟨by have := hb.ge; omega, by have := hb.lt; simpa using this⟩), hcN.trans HW.out.cmdN, .inl hm0, HW.out.memN⟩
          have kb : ∀ b, b < wa.heap.size → b ≠ g → w9.heap[b]? = wa.heap[b]? := fun b hb hne => (hput.grown.block b (by simp; omega) (by simpa using hne)).trans ((HB3.out _).block b hb)
          have m9 : w9.cell? ⟨w.heap.size, 11, none⟩ = some (.slice (some ⟨b, off, none⟩) n cap) := cell_same (kb _ (by omega) (by omega)) m11
          have hK9 : Hid (w9.heap[w.heap.size + 1]? = some (.cells zero49 49 (0, 0)) ∧ w9.heap[w.heap.size + 1 + 1]? = some (.cells M0 49 (0, 0))) := ⟨(kb _ (by omega) (by omega)).trans hK.out.1, (kb _ (by omega) (by omega)).trans hK.out.2⟩
          clear kb hput HT HB3 x4 y0 y1 y2 y3 y4 yf
          go_wp2_with fail
          go_roundw
          case rel => exact ⟨k + 1, by omega, by go_num, m9, hE9, hK9⟩
          case measure => simp [intOf]; omega
        · go_wp2_with (refine wpList_make_full _ rfl (.tmp 87) (.tmp 87) 54 rfl 0 82 i8 _ 6 Try.underlying54 HI8.out hy0 hy1 .i64 .i64 _ _ e.mem.length rfl rfl rfl rfl (by rw [hy2]; omega) (by unfold maxLen; omega) (Nat.zero_le _) ?_)
          intro w4 hown hgrow
          have hM0' : Mems w4 w4 w3.heap.size e.mem.length 0 e.mem := Mems.start (hown.lt _ rfl).2 (there_own hown)
          have hs4 : w3.heap.size < w4.heap.size := (hown.lt _ rfl).2
          have k4 : ∀ b, b < w3.heap.size → w4.heap[b]? = (w3.setCell ⟨wa.heap.size + 1, 2, none⟩ (.slice ca2 e.cmd.length cc2)).heap[b]? := fun b hb => hgrow.block b (by simpa using hb) (by simp)
          have o4 := hgrow.os
          have t4 := hgrow.tape
          have p4 := hgrow.output
          have K4 := hide k4
          have HG4 := hide hgrow
          clear hown hgrow k4 o4 t4 p4
          go_wp2_with fail
          go_loopw [9] (fun i wr => ∃ j : Nat, j ≤ e.mem.length ∧ i = .int .i64 j ∧ Mems w4 wr w3.heap.size e.mem.length j e.mem) (fun i _ => e.mem.length - (intOf i).toNat)
          case atStart => exact ⟨0, Nat.zero_le _, rfl, hM0'⟩
          case round =>
            obtain ⟨j, hj, rfl, hMe⟩ := hrel
            have kw : ∀ b, b < w3.heap.size → b ≠ wa.heap.size + 1 → wr.heap[b]? = w3.heap[b]? := fun b hb hne => (hMe.grown.block b (by omega) (by simp; omega)).trans ((K4.out b hb).trans (heap_setCell_other _ _ _ _ hne))
            have s4 : wr.cell? ⟨wa.heap.size, 4, none⟩ = some (.slice (some am) e.mem.length mc) := cell_same (kw _ (by omega) (by omega)) x4
            have hsr := hMe.grown.size
            by_cases hltj : j < e.mem.length
            · obtain ⟨mb, hmb⟩ : ∃ mb, e.mem[j]? = some mb := ⟨_, List.getElem?_eq_getElem hltj⟩
              rcases HW.out.mem with hwm | ⟨g', of1, ha, hg', hc'⟩
              · rw [hwm] at hmb; simp at hmb
              cases ha
              obtain ⟨pp, z0, z1, z2, z3, z4, z5, hma⟩ := hc' j _ hmb
              have hg2 : g' < w.heap.size := hg'
              have kO : ∀ b, b < w.heap.size → wr.heap[b]? = w.heap[b]? := fun b hb => (kw b (by omega) (by omega)).trans ((heap_setCell_other _ ⟨wa.heap.size + 1, 2, none⟩ b (.bool true) (by simp; omega)).symm.trans (((HB3.out _).block b (by omega)).trans (hbel.block b hb)))
              replace z0 := cell_same (kO g' hg2) z0
              replace z1 := cell_same (kO g' hg2) z1
              replace z2 := cell_same (kO g' hg2) z2
              replace z3 := cell_same (kO g' hg2) z3
              replace z4 := cell_same (kO g' hg2) z4
              replace z5 := cell_same (kO g' hg2) z5
              have r1 : g' < wr.heap.size := by omega
              have r2 : wa.heap.size < wr.heap.size := by omega
              have r3 : w3.heap.size < wr.heap.size := by omega
              have hltj' : (j : Int) < (e.mem.length : Int) := by omega
              have HMB := hide hmb
              have HTM : Hid (∀ X, Below wr.heap.size wr X → X.there w3.heap.size (j * 6) 6) := fun X hX => there_sub (there_keep hMe.there (hX.block _ r3)) (by omega)
              clear hc' hmb
              rcases hma with ⟨rfl, hmt⟩ | ⟨t1, o1, xv, rfl, hmt, ht1, zv⟩
              · have HMT := hide hmt
                clear hmt kw kO
                go_wp2_with (refine wpList_store_put rfl 82 (.tmp 127) (.tmp 126) rfl w3.heap.size (j * 6) #[.int .u64 mb.id, .string mb.addr, .bool mb.voting, .int .u8 mb.part, .pointer none, .int .u64 mb.cfg] rfl rfl (HTM.out _ (two_allocs _ _ _)) size82 (one82 _ _ _ _ _ _) ?_)
                intro w9 hput
                have hMe9 := hMe.step HMB.out (two_allocs _ _ _) hput (.inl ⟨rfl, HMT.out⟩)
                clear hput HTM
                go_wp2_with fail
                go_roundw
                case rel => exact ⟨j + 1, by omega, by go_num, hMe9⟩
                case measure => simp [intOf]; omega
              · have HMT := hide hmt
                have ht2 : t1 < w.heap.size := ht1
                replace zv := cell_same (kO t1 ht2) zv
                have r5 : t1 < wr.heap.size := by omega
                have r6 : t1 < wr.heap.size + 1 := by omega
                have r7 : t1 < wr.heap.size + 1 + 1 := by omega
                clear hmt kw kO
                go_wp2_with (refine wpList_store_put rfl 82 (.tmp 127) (.tmp 126) rfl w3.heap.size (j * 6) #[.int .u64 mb.id, .string mb.addr, .bool mb.voting, .int .u8 mb.part, .pointer (some ⟨wr.heap.size + 1 + 1, 0, none⟩), .int .u64 mb.cfg] rfl rfl (HTM.out _ (three_allocs _ _ _ _)) size82 (one82 _ _ _ _ _ _) ?_)
                intro w9 hput
                have hMe9 := hMe.step HMB.out (three_allocs _ _ _ _) hput (.inr ⟨_, 0, xv, rfl, HMT.out, ⟨by omega, by simp⟩, (cell3_new _ _ _ _ _ _).trans rfl⟩)
                clear hput HTM
                go_wp2_with fail
                go_roundw
                case rel => exact ⟨j + 1, by omega, by go_num, hMe9⟩
                case measure => simp [intOf]; omega
            · obtain rfl : j = e.mem.length := by omega
              have kH : wr.heap[wa.heap.size + 1]? = (w3.setCell ⟨wa.heap.size + 1, 2, none⟩ (.slice ca2 e.cmd.length cc2)).heap[wa.heap.size + 1]? := (hMe.grown.block _ (by omega) (by simp; omega)).trans (K4.out _ (by omega))
              have v0 := cell_same kH ((World.cell?_setCell_other w3 ⟨wa.heap.size + 1, 2, none⟩ ⟨wa.heap.size + 1, 0, none⟩ (.slice ca2 e.cmd.length cc2) (by simp)).trans y0)
              have v1 := cell_same kH ((World.cell?_setCell_other w3 ⟨wa.heap.size + 1, 2, none⟩ ⟨wa.heap.size + 1, 1, none⟩ (.slice ca2 e.cmd.length cc2) (by simp)).trans y1)
              have v2 := cell_same kH (World.cell?_setCell_same w3 ⟨wa.heap.size + 1, 2, none⟩ (.slice ca2 e.cmd.length cc2) y2)
              have v3 := cell_same kH ((World.cell?_setCell_other w3 ⟨wa.heap.size + 1, 2, none⟩ ⟨wa.heap.size + 1, 3, none⟩ (.slice ca2 e.cmd.length cc2) (by simp)).trans y3)
              have v4 := cell_same kH ((World.cell?_setCell_other w3 ⟨wa.heap.size + 1, 2, none⟩ ⟨wa.heap.size + 1, 4, none⟩ (.slice ca2 e.cmd.length cc2) (by simp)).trans y4)
              have vf : wr.frozen? ⟨wa.heap.size + 1, 4, none⟩ = false := by
                rw [World.frozen?_of_block (w := w3.setCell ⟨wa.heap.size + 1, 2, none⟩ (.slice ca2 e.cmd.length cc2)) (a := ⟨wa.heap.size + 1, 4, none⟩) kH, World.frozen?_setCell]; exact yf 4
              have hBX : Below wa.heap.size wa (wr.setCell ⟨wa.heap.size + 1, 4, none⟩ (.slice (some ⟨w3.heap.size, 0, none⟩) e.mem.length e.mem.length)) := by
                have h3 := HB3.out (.slice ca2 e.cmd.length cc2)
                have h4 : Below wa.heap.size wa w4 := h3.grown HG4.out (by simp; omega) (fun b hb => by cases hb)
                exact (h4.grown hMe.grown (by omega) (fun b hb => by cases hb; omega)).setCell (p := ⟨wa.heap.size + 1, 4, none⟩) (by simp) _
              have HBX := hide hBX
              have HTX : Hid ((wr.setCell ⟨wa.heap.size + 1, 4, none⟩ (.slice (some ⟨w3.heap.size, 0, none⟩) e.mem.length e.mem.length)).there g (k * 5) 5) := there_sub (there_keep hE.there (hBX.block g hgl)) (by omega)
              have HWX : Hid (Within (wr.setCell ⟨wa.heap.size + 1, 4, none⟩ (.slice (some ⟨w3.heap.size, 0, none⟩) e.mem.length e.mem.length)) (fun b => wa.heap.size ≤ b ∧ b < (wr.setCell ⟨wa.heap.size + 1, 4, none⟩ (.slice (some ⟨w3.heap.size, 0, none⟩) e.mem.length e.mem.length)).heap.size)
                  (fun b => wa.heap.size ≤ b ∧ b < (wr.setCell ⟨wa.heap.size + 1, 4, none⟩ (.slice (some ⟨w3.heap.size, 0, none⟩) e.mem.length e.mem.length)).heap.size) ca2 (some ⟨w3.heap.size, 0, none⟩) e) := by
                refine ⟨HC.out.move (fun b hb => ?_) (fun b hb => ⟨by have := hb.ge; omega, by have := hb.lt; simp; omega⟩), hcN.trans HW.out.cmdN, hMe.done (by omega) (by omega) (fun b h1 h2 => heap_setCell_other _ _ _ _ (by simp; omega)) (by simp), HW.out.memN⟩
                rw [heap_setCell_other _ _ _ _ (by have := hb.ge; simp; omega)]
                exact kw b hb.lt (by have := hb.ge; omega)
              clear kw kH hBX
              go_wp2_with (refine wpList_store_put rfl 56 (.tmp 133) (.tmp 132) rfl g (k * 5) #[.int .u64 e.index, .int .u64 e.term, .slice ca2 e.cmd.length cc2, .bool e.noop, .slice (some ⟨w3.heap.size, 0, none⟩) e.mem.length e.mem.length] rfl rfl HTX.out size56 (one56 _ _ _ _ _ _ _ _ _) ?_)
              intro w9 hput
              have hE9 : Ents w w9 g n (k + 1) es := hE.step HE.out HBX.out (ca := ca2) (cc := cc2) (ma := some ⟨w3.heap.size, 0, none⟩) (mc := e.mem.length) hput HWX.out
              have kb : ∀ b, b < wa.heap.size → b ≠ g → w9.heap[b]? = wa.heap[b]? := fun b hb hne => (hput.grown.block b (by simp; omega) (by simpa using hne)).trans (HBX.out.block b hb)
              have m9 : w9.cell? ⟨w.heap.size, 11, none⟩ = some (.slice (some ⟨b, off, none⟩) n cap) := cell_same (kb _ (by omega) (by omega)) m11
              have hK9 : Hid (w9.heap[w.heap.size + 1]? = some (.cells zero49 49 (0, 0)) ∧ w9.heap[w.heap.size + 1 + 1]? = some (.cells M0 49 (0, 0))) := ⟨(kb _ (by omega) (by omega)).trans hK.out.1, (kb _ (by omega) (by omega)).trans hK.out.2⟩
              clear kb hput HT HB3 x4 y0 y1 y2 y3 y4 yf v0 v1 v2 v3 v4 vf HTX HWX HBX
              go_wp2_with fail
              go_roundw
              case rel => exact ⟨k + 1, by omega, by go_num, m9, hE9, hK9⟩
              case measure => simp [intOf]; omega
      · obtain rfl : k = n := by omega
        have hsw : w.heap.size + 3 < wa.heap.size := Nat.lt_of_le_of_lt hE.ge hE.lt
        have z11 : wa.cell? ⟨w.heap.size + 1 + 1, 11, none⟩ = some (.slice none 0 0) := by rw [cell_of_row wa _ 11 M0 49 _ hK.out.2, HM0.out]; rfl
        have zf : wa.frozen? ⟨w.heap.size + 1 + 1, 11, none⟩ = false := frozen_of_row wa _ 11 M0 49 hK.out.2
        obtain ⟨M2, hM2⟩ : ∃ M2, M2 = msg h (.slice (some ⟨g, 0, none⟩) k k) := ⟨_, rfl⟩
        have HM2 := hide hM2
        have HN2 : Hid (M2.size = 20) := by rw [hM2]; rfl
        have HA2 : Hid (M2.all (·.oneCell') = true) := by rw [hM2]; exact msg_one h _ rfl
        have HB2 : Hid ((wa.setCell ⟨w.heap.size + 1 + 1, 11, none⟩ (.slice (some ⟨g, 0, none⟩) k k)).heap[w.heap.size + 1 + 1]? = some (.cells M2 49 (0, 0))) := by
          have := heap_setCell_same wa (w.heap.size + 1 + 1) 11 M0 49 (.slice (some ⟨g, 0, none⟩) k k) hK.out.2
          rw [HM0.out] at this
          rw [hM2]
          exact this
        have HB1 : Hid ((wa.setCell ⟨w.heap.size + 1 + 1, 11, none⟩ (.slice (some ⟨g, 0, none⟩) k k)).heap[w.heap.size + 1]? = some (.cells zero49 49 (0, 0))) := (heap_setCell_other _ _ _ _ (by simp)).trans hK.out.1
        clear hM2
        go_wp2_with (first | (refine wpList_load_row rfl 49 (.tmp 3) rfl (w.heap.size + 1 + 1) rfl 49 M2 (0, 0) _ HB2.out Try.underlying49 rfl (by rw [HN2.out]; exact size49) ?_) | (refine wpList_store_abs rfl 49 (.tmp 2) (.tmp 136) rfl (w.heap.size + 1) M2 rfl rfl 49 zero49 HB1.out (by rw [HN2.out]; exact size49) (by rw [HN2.out]; rfl) HA2.out ?_))
        intro w5 hb5 hg5
        have hB5 : Below w.heap.size w w5 := (hE.below.setCell (p := ⟨w.heap.size + 1 + 1, 11, none⟩) (by simp; omega) _).grown hg5 (by simp; omega) (fun b hb => by cases hb; omega)
        have hE5 : EntsAt w5 (Old w5) (Old w5) (some ⟨g, 0, none⟩) es := by
          rw [← HN.out] at hE
          exact hE.done (fun b h1 h2 => (hg5.block b (by simpa using h2) (by simp; omega)).trans (heap_setCell_other _ _ _ _ (by simp; omega))) (by have := hg5.size; simpa using this)
        have HB5 := hide hb5
        have HE5 := hide hE5
        clear hb5 hg5 hE5
        go_wp2_with fail
        refine bodyPost_ret (v := .agg M2) (results_cell_row Try.results20 _ _ (w.heap.size + 1) 49 M2 (0, 0) _ rfl HB5.out Try.underlying49 rfl (by rw [HN2.out]; exact size49)) rfl ⟨some ⟨g, 0, none⟩, k, ?_, rfl, HE5.out, hB5⟩
        rw [HM2.out, HN.out]
end Go.Proofs.Qxb6614540a.V
