/-
  eqView.
-/
import Derived.Test.Qxb6614540aViewB
namespace Go.Proofs.Qxb6614540a.V
open Go.RowKit
attribute [local go_sem] Lib.run_eql_slice_nil

/-- A message's plain fields. -/
structure Hd where
  seq : Int
  cause : Int
  state : Int
  kind : Int
  src : Int
  dst : Int
  term : Int
  lli : Int
  llt : Int
  pli : Int
  plt : Int
  lc : Int
  success : Bool
  index : Int
  round : Int
  si : Int
  st : Int
  offset : Int
  size : Int

/-- A message's cells: its plain fields, and the slice of its entries. -/
abbrev msg (h : Hd) (v : Value) : Array Value :=
  #[.int .i64 h.seq, .int .i64 h.cause, .int .u8 h.state, .int .u8 h.kind, .int .u64 h.src, .int .u64 h.dst, .int .u64 h.term, .int .u64 h.lli, .int .u64 h.llt, .int .u64 h.pli, .int .u64 h.plt, v,
    .int .u64 h.lc, .bool h.success, .int .u64 h.index, .int .u64 h.round, .int .u64 h.si, .int .u64 h.st, .int .u64 h.offset, .int .u64 h.size]

/-- An entry as a view has it: its command nil exactly where it is empty. -/
def viewEn (e : En) : En := { e with cmdN := e.cmd.isEmpty }

/-- The sizes that tooBigMsg lets by. -/
structure Fits (es : List En) : Prop where
  n : es.length ≤ 65536
  cmd : ∀ (k : Nat) (e : En), es[k]? = some e → e.cmd.length ≤ 1048576
  mem : ∀ (k : Nat) (e : En), es[k]? = some e → e.mem.length ≤ 65536

theorem two_more (w : World) (o o' : Obj) (q : Nat) : Below w.heap.size w (((w.alloc o).alloc o').drewN q) := below_drewN (((Below.refl _ _).alloc (Nat.le_refl _) _).alloc (by simp) _) q

set_option maxRecDepth 100000 in
set_option maxHeartbeats 1000000 in
theorem f22_any (h : Hd) (ao ao' : Option Addr) (cap cap' : Nat) (es : List En) (w : World) (hv : EntsAt w (Old w) (Old w) ao (es.map viewEn)) (hm : EntsAt w (Old w) (Old w) ao' es) (hn : ao.isNone = es.isEmpty) (hf : Fits es) :
    Calls Try.prog 22 #[.agg (msg h (.slice ao es.length cap)), .agg (msg h (.slice ao' es.length cap'))] w fun e w' => e = .returned (.bool true) ∧ Below w.heap.size w w' := by
  obtain ⟨n, hes⟩ : ∃ n, es.length = n := ⟨_, rfl⟩
  have hn65 : n ≤ 65536 := hes ▸ hf.n
  have hnil : ao.isNone = ((n : Int) == 0) := by
    rw [hn, ← hes]
    cases es with
    | nil => rfl
    | cons e es => simp; omega
  rw [hes]
  have HN := hide hes
  clear hes hn
  go_enter Try.func22, Try.ntmps22
  go_wp2_with fail
  go_loopw [5] (fun i wr => ∃ k : Nat, k ≤ n ∧ i = .int .i64 k ∧ wr.cell? ⟨w.heap.size, 11, none⟩ = some (.slice ao n cap) ∧ wr.cell? ⟨w.heap.size + 1, 11, none⟩ = some (.slice ao' n cap') ∧ Below w.heap.size w wr ∧ w.heap.size + 2 ≤ wr.heap.size)
    (fun i _ => n - (intOf i).toNat)
  case atStart => exact ⟨0, Nat.zero_le _, rfl, by go_simp, by go_simp, ((Below.refl _ _).alloc (Nat.le_refl _) _).alloc (by simp) _, by simp⟩
  case round =>
    rename World => wa
    obtain ⟨k, hk, rfl, m1, m2, hbel, hsz⟩ := hrel
    by_cases hlt : k < n
    · obtain ⟨e, he⟩ : ∃ e, es[k]? = some e := ⟨_, List.getElem?_eq_getElem (by rw [HN.out]; exact hlt)⟩
      have he' : (es.map viewEn)[k]? = some (viewEn e) := by simp [he]
      rcases hv with hv | ⟨b, off, rfl, hb, hc⟩
      · simp [hv] at he'
      rcases hm with hm | ⟨b', off', rfl, hb', hc'⟩
      · simp [hm] at he
      obtain ⟨ca, cc, ma, mc, c0, c1, c2, c3, c4, hwi⟩ := hc k _ he'
      obtain ⟨ca', cc', ma', mc', d0, d1, d2, d3, d4, hwi'⟩ := hc' k _ he
      have hcl := hf.cmd k e he
      have hml := hf.mem k e he
      replace c0 := (hbel.cell (p := ⟨b, _, none⟩) hb).trans c0
      replace c1 := (hbel.cell (p := ⟨b, _, none⟩) hb).trans c1
      replace c2 := (hbel.cell (p := ⟨b, _, none⟩) hb).trans c2
      replace c3 := (hbel.cell (p := ⟨b, _, none⟩) hb).trans c3
      replace c4 := (hbel.cell (p := ⟨b, _, none⟩) hb).trans c4
      replace d0 := (hbel.cell (p := ⟨b', _, none⟩) hb').trans d0
      replace d1 := (hbel.cell (p := ⟨b', _, none⟩) hb').trans d1
      replace d2 := (hbel.cell (p := ⟨b', _, none⟩) hb').trans d2
      replace d3 := (hbel.cell (p := ⟨b', _, none⟩) hb').trans d3
      replace d4 := (hbel.cell (p := ⟨b', _, none⟩) hb').trans d4
      have hbw : b < wa.heap.size := Nat.lt_of_lt_of_le hb hbel.size
      have hbw' : b' < wa.heap.size := Nat.lt_of_lt_of_le hb' hbel.size
      have hlt' : (k : Int) < (n : Int) := by omega
      have q1 : w.heap.size < wa.heap.size := by omega
      have q2 : w.heap.size + 1 < wa.heap.size := by omega
      simp only [viewEn] at c0 c1 c2 c3 c4
      have hwc := hwi.cmd.below hbel
      have hwc' := hwi'.cmd.below hbel
      have hwm := hwi.mem.below hbel
      have hwm' := hwi'.mem.below hbel
      have hN1 : ca.isNone = ((e.cmd.length : Int) == 0) := by
        rw [hwi.cmdN]
        show e.cmd.isEmpty = _
        cases e.cmd with
        | nil => rfl
        | cons x xs => simp; omega
      have hN2 : ma.isNone = ma'.isNone := hwi.memN.trans hwi'.memN.symm
      clear he he' hc hc' hwi hwi'
      have hB2 : ∀ o o', Below wa.heap.size wa ((wa.alloc o).alloc o') := fun o o' => ((Below.refl _ _).alloc (Nat.le_refl _) _).alloc (by simp) _
      have HB2 := hide hB2
      clear hB2
      go_wp2_with fail
      refine (f32_any ca cc ca' cc' e.cmd _ (hwc.below (HB2.out _ _)) (hwc'.below (HB2.out _ _)) hcl).mono ?_
      rintro e1 w2 ⟨rfl, q, rfl⟩
      clear hwc hwc' HB2
      go_wp2_with fail
      go_loopw [8] (fun i w3 => ∃ j : Nat, j ≤ e.mem.length ∧ i = .int .i64 j ∧ w3.cell? ⟨wa.heap.size, 4, none⟩ = some (.slice ma e.mem.length mc) ∧ w3.cell? ⟨wa.heap.size + 1, 4, none⟩ = some (.slice ma' e.mem.length mc') ∧ Below wa.heap.size wa w3 ∧ wa.heap.size + 2 ≤ w3.heap.size)
        (fun i _ => e.mem.length - (intOf i).toNat)
      case atStart => exact ⟨0, Nat.zero_le _, rfl, by go_simp, by go_simp, below_drewN (((Below.refl _ _).alloc (Nat.le_refl _) _).alloc (by simp) _) q, by simp⟩
      case round =>
        obtain ⟨j, hj, rfl, n1, n2, hbel2, hsz2⟩ := hrel
        by_cases hltj : j < e.mem.length
        · obtain ⟨mb, hmb⟩ : ∃ mb, e.mem[j]? = some mb := ⟨_, List.getElem?_eq_getElem hltj⟩
          rcases hwm with hwm | ⟨g, of1, rfl, hg, hc⟩
          · rw [show e.mem = [] from hwm] at hmb; simp at hmb
          rcases hwm' with hwm' | ⟨g', of2, rfl, hg', hc'⟩
          · simp [hwm'] at hmb
          obtain ⟨pp, x0, x1, x2, x3, x4, x5, hma⟩ := hc j _ hmb
          obtain ⟨pp', y0, y1, y2, y3, y4, y5, hma'⟩ := hc' j _ hmb
          replace x0 := (hbel2.cell (p := ⟨g, _, none⟩) hg).trans x0
          replace x1 := (hbel2.cell (p := ⟨g, _, none⟩) hg).trans x1
          replace x2 := (hbel2.cell (p := ⟨g, _, none⟩) hg).trans x2
          replace x3 := (hbel2.cell (p := ⟨g, _, none⟩) hg).trans x3
          replace x4 := (hbel2.cell (p := ⟨g, _, none⟩) hg).trans x4
          replace x5 := (hbel2.cell (p := ⟨g, _, none⟩) hg).trans x5
          replace y0 := (hbel2.cell (p := ⟨g', _, none⟩) hg').trans y0
          replace y1 := (hbel2.cell (p := ⟨g', _, none⟩) hg').trans y1
          replace y2 := (hbel2.cell (p := ⟨g', _, none⟩) hg').trans y2
          replace y3 := (hbel2.cell (p := ⟨g', _, none⟩) hg').trans y3
          replace y4 := (hbel2.cell (p := ⟨g', _, none⟩) hg').trans y4
          replace y5 := (hbel2.cell (p := ⟨g', _, none⟩) hg').trans y5
          have r1 : wa.heap.size < wr.heap.size := by omega
          have r2 : wa.heap.size + 1 < wr.heap.size := by omega
          have r3 : g < wr.heap.size := Nat.lt_of_lt_of_le hg hbel2.size
          have r4 : g' < wr.heap.size := Nat.lt_of_lt_of_le hg' hbel2.size
          have hltj' : (j : Int) < (e.mem.length : Int) := by omega
          clear hc hc' hmb
          rcases hma with ⟨rfl, hmt⟩ | ⟨t1, o1, xv, rfl, hmt, ht1, z1⟩
          · rcases hma' with ⟨rfl, _⟩ | ⟨t2, o2, xv', rfl, hmt', ht2, z2⟩
            · clear hmt
              go_wp2_with fail
              go_quiet (fail)
              go_wp2_with fail
              go_roundw
              case rel => exact ⟨j + 1, by omega, by go_num, ((two_more _ _ _ _).cell r1).trans n1, ((two_more _ _ _ _).cell r2).trans n2, hbel2.trans ((two_more _ _ _ _).mono hbel2.size), by simp; omega⟩
              case measure => simp [intOf]; omega
            · rw [hmt] at hmt'; cases hmt'
          · rcases hma' with ⟨rfl, hmt'⟩ | ⟨t2, o2, xv', rfl, hmt', ht2, z2⟩
            · rw [hmt] at hmt'; cases hmt'
            · rw [hmt] at hmt'
              cases hmt'
              replace z1 := (hbel2.cell (p := ⟨t1, _, none⟩) ht1).trans z1
              replace z2 := (hbel2.cell (p := ⟨t2, _, none⟩) ht2).trans z2
              have r5 : t1 < wr.heap.size := Nat.lt_of_lt_of_le ht1 hbel2.size
              have r6 : t2 < wr.heap.size := Nat.lt_of_lt_of_le ht2 hbel2.size
              clear hmt
              go_wp2_with fail
              go_quiet (fail)
              go_wp2_with fail
              go_roundw
              case rel => exact ⟨j + 1, by omega, by go_num, ((two_more _ _ _ _).cell r1).trans n1, ((two_more _ _ _ _).cell r2).trans n2, hbel2.trans ((two_more _ _ _ _).mono hbel2.size), by simp; omega⟩
              case measure => simp [intOf]; omega
        · go_wp2_with fail
          go_roundw
          case rel => exact ⟨k + 1, by omega, by go_num, (hbel2.cell q1).trans m1, (hbel2.cell q2).trans m2, hbel.trans (hbel2.mono hbel.size), by have := hbel2.size; omega⟩
          case measure => simp [intOf]; omega
    · go_wp2_with fail
      go_ret
      exact ⟨rfl, hbel⟩
end Go.Proofs.Qxb6614540a.V
