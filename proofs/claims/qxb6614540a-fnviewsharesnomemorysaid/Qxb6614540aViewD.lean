/-
  The guards of the laws on view: zzBytes_.., tooBigMsg.
-/
import Derived.Test.Qxb6614540aViewC
namespace Go.Proofs.Qxb6614540a.V
open Go.RowKit

/-- The call returned some bool. -/
def AnyBool (e : Ending) : Prop := ∃ b : Bool, e = .returned (.bool b)

set_option maxRecDepth 100000 in
set_option maxHeartbeats 1000000 in
theorem f18_any (h : Hd) (ao : Option Addr) (cap : Nat) (es : List En) (held : Bool) (w : World) (hm : EntsAt w (Old w) (Old w) ao es) :
    Calls Try.prog 18 #[.agg (msg h (.slice ao es.length cap)), .bool held] w fun e w' => AnyBool e ∧ Below w.heap.size w w' := by
  obtain ⟨n, hes⟩ : ∃ n, es.length = n := ⟨_, rfl⟩
  rw [hes]
  have HN := hide hes
  clear hes
  have hB := fun o => (Below.refl w.heap.size w).alloc (Nat.le_refl _) o
  have HB := hide hB
  clear hB
  by_cases hbig : 1048576 < n
  · have hbig' : (1048576 : Int) < n := by omega
    go_enter Try.func18, Try.ntmps18
    go_wp2
    go_ret
    exact ⟨⟨_, rfl⟩, HB.out _⟩
  have hbig' : (n : Int) ≤ 1048576 := by omega
  go_enter Try.func18, Try.ntmps18
  go_wp2
  go_loop [5, 6] (fun t i => ∃ (k : Nat) (s : Int), k ≤ n ∧ i = .int .i64 k ∧ t = .int .i64 s) (fun _ i => n - (intOf i).toNat)
  case atStart => exact ⟨0, _, Nat.zero_le _, rfl, rfl⟩
  case round =>
    obtain ⟨k, s, hk, rfl, rfl⟩ := hrel
    by_cases hlt : k < n
    · obtain ⟨e, he⟩ : ∃ e, es[k]? = some e := ⟨_, List.getElem?_eq_getElem (by rw [HN.out]; exact hlt)⟩
      rcases hm with hm | ⟨b, off, rfl, hb, hc⟩
      · simp [hm] at he
      obtain ⟨ca, cc, ma, mc, c0, c1, c2, c3, c4, hwi⟩ := hc k _ he
      have hb' : b < w.heap.size := hb
      have hwm := hwi.mem
      have hlt' : (k : Int) < (n : Int) := by omega
      clear he hc hwi hb
      go_wp2
      · go_ret
        exact ⟨⟨_, rfl⟩, HB.out _⟩
      · go_ret
        exact ⟨⟨_, rfl⟩, HB.out _⟩
      · go_ret
        exact ⟨⟨_, rfl⟩, HB.out _⟩
      · go_ret
        exact ⟨⟨_, rfl⟩, HB.out _⟩
      go_loop [5, 7] (fun t i => ∃ (j : Nat) (s : Int), j ≤ e.mem.length ∧ i = .int .i64 j ∧ t = .int .i64 s) (fun _ i => e.mem.length - (intOf i).toNat)
      case atStart => exact ⟨0, _, Nat.zero_le _, rfl, rfl⟩
      case round =>
        obtain ⟨j, s2, hj, rfl, rfl⟩ := hrel
        by_cases hltj : j < e.mem.length
        · obtain ⟨mb, hmb⟩ : ∃ mb, e.mem[j]? = some mb := ⟨_, List.getElem?_eq_getElem hltj⟩
          rcases hwm with hwm | ⟨g, of1, rfl, hg, hc⟩
          · simp [hwm] at hmb
          obtain ⟨pp, x0, x1, x2, x3, x4, x5, hma⟩ := hc j _ hmb
          have hg' : g < w.heap.size := hg
          have hltj' : (j : Int) < (e.mem.length : Int) := by omega
          clear hc hmb hma hg
          go_wp2
          · go_ret
            exact ⟨⟨_, rfl⟩, HB.out _⟩
          · go_ret
            exact ⟨⟨_, rfl⟩, HB.out _⟩
          · go_round
            case rel => exact ⟨j + 1, _, by omega, by go_num, rfl⟩
            case measure => simp [intOf]; omega
        · go_wp2
          go_round
          case rel => exact ⟨k + 1, _, by omega, by go_num, rfl⟩
          case measure => simp [intOf]; omega
    · go_wp2
      go_ret
      exact ⟨⟨_, rfl⟩, HB.out _⟩

set_option maxRecDepth 100000 in
set_option maxHeartbeats 1000000 in
theorem f23_any (h : Hd) (ao : Option Addr) (cap : Nat) (es : List En) (held again : Bool) (w : World) (hm : EntsAt w (Old w) (Old w) ao es) :
    Calls Try.prog 23 #[.agg (msg h (.slice ao es.length cap)), .bool held, .bool again] w fun e w' => AnyBool e ∧ Below w.heap.size w w' := by
  obtain ⟨n, hes⟩ : ∃ n, es.length = n := ⟨_, rfl⟩
  rw [hes]
  have HN := hide hes
  clear hes
  have hB := fun o => (Below.refl w.heap.size w).alloc (Nat.le_refl _) o
  have HB := hide hB
  clear hB
  by_cases hbig : 1048576 < n
  · have hbig' : (1048576 : Int) < n := by omega
    go_enter Try.func23, Try.ntmps23
    go_wp2
    go_ret
    exact ⟨⟨_, rfl⟩, HB.out _⟩
  have hbig' : (n : Int) ≤ 1048576 := by omega
  go_enter Try.func23, Try.ntmps23
  go_wp2
  go_loop [7, 8] (fun t i => ∃ (k : Nat) (s : Int), k ≤ n ∧ i = .int .i64 k ∧ t = .int .i64 s) (fun _ i => n - (intOf i).toNat)
  case atStart => exact ⟨0, _, Nat.zero_le _, rfl, rfl⟩
  case round =>
    obtain ⟨k, s, hk, rfl, rfl⟩ := hrel
    by_cases hlt : k < n
    · obtain ⟨e, he⟩ : ∃ e, es[k]? = some e := ⟨_, List.getElem?_eq_getElem (by rw [HN.out]; exact hlt)⟩
      rcases hm with hm | ⟨b, off, rfl, hb, hc⟩
      · simp [hm] at he
      obtain ⟨ca, cc, ma, mc, c0, c1, c2, c3, c4, hwi⟩ := hc k _ he
      have hb' : b < w.heap.size := hb
      have hwm := hwi.mem
      have hlt' : (k : Int) < (n : Int) := by omega
      clear he hc hwi hb
      go_wp2
      · go_ret
        exact ⟨⟨_, rfl⟩, HB.out _⟩
      · go_ret
        exact ⟨⟨_, rfl⟩, HB.out _⟩
      · go_ret
        exact ⟨⟨_, rfl⟩, HB.out _⟩
      · go_ret
        exact ⟨⟨_, rfl⟩, HB.out _⟩
      go_loop [7, 9] (fun t i => ∃ (j : Nat) (s : Int), j ≤ e.mem.length ∧ i = .int .i64 j ∧ t = .int .i64 s) (fun _ i => e.mem.length - (intOf i).toNat)
      case atStart => exact ⟨0, _, Nat.zero_le _, rfl, rfl⟩
      case round =>
        obtain ⟨j, s2, hj, rfl, rfl⟩ := hrel
        by_cases hltj : j < e.mem.length
        · obtain ⟨mb, hmb⟩ : ∃ mb, e.mem[j]? = some mb := ⟨_, List.getElem?_eq_getElem hltj⟩
          rcases hwm with hwm | ⟨g, of1, rfl, hg, hc⟩
          · simp [hwm] at hmb
          obtain ⟨pp, x0, x1, x2, x3, x4, x5, hma⟩ := hc j _ hmb
          have hg' : g < w.heap.size := hg
          have hltj' : (j : Int) < (e.mem.length : Int) := by omega
          clear hc hmb hma hg
          go_wp2
          · go_ret
            exact ⟨⟨_, rfl⟩, HB.out _⟩
          · go_ret
            exact ⟨⟨_, rfl⟩, HB.out _⟩
          · go_round
            case rel => exact ⟨j + 1, _, by omega, by go_num, rfl⟩
            case measure => simp [intOf]; omega
        · go_wp2
          go_round
          case rel => exact ⟨k + 1, _, by omega, by go_num, rfl⟩
          case measure => simp [intOf]; omega
    · go_wp2
      go_ret
      exact ⟨⟨_, rfl⟩, HB.out _⟩


/-- The call returned some bool; where it is false, the message is small. -/
def SmallMsg (es : List En) (e : Ending) : Prop := ∃ b : Bool, e = .returned (.bool b) ∧ (b = false → Fits es)

/-- The first k entries are small. -/
def FitsTo (es : List En) (k : Nat) : Prop := ∀ (j : Nat) (e : En), j < k → es[j]? = some e → e.cmd.length ≤ 1048576 ∧ e.mem.length ≤ 65536
theorem FitsTo.step {es : List En} {k : Nat} {e : En} (h : FitsTo es k) (he : es[k]? = some e) (h1 : e.cmd.length ≤ 1048576) (h2 : e.mem.length ≤ 65536) : FitsTo es (k + 1) := by
  intro j e' hj he'
  by_cases hjk : j = k
  · subst hjk
    rw [he] at he'
    cases he'
    exact ⟨h1, h2⟩
  · exact h j e' (by omega) he'
theorem FitsTo.fits {es : List En} (h : FitsTo es es.length) (hn : es.length ≤ 65536) : Fits es :=
  ⟨hn, fun k e he => (h k e (List.getElem?_eq_some_iff.1 he).1 he).1, fun k e he => (h k e (List.getElem?_eq_some_iff.1 he).1 he).2⟩
theorem smallT (es : List En) : SmallMsg es (.returned (.bool true)) := ⟨true, rfl, fun h => by cases h⟩

theorem one_more (w : World) (o : Obj) : Below w.heap.size w (w.alloc o) := (Below.refl _ _).alloc (Nat.le_refl _) _

set_option maxRecDepth 100000 in
set_option maxHeartbeats 1000000 in
theorem f19_any (h : Hd) (ao : Option Addr) (cap : Nat) (es : List En) (w : World) (hm : EntsAt w (Old w) (Old w) ao es) :
    Calls Try.prog 19 #[.agg (msg h (.slice ao es.length cap))] w fun e w' => SmallMsg es e ∧ Below w.heap.size w w' := by
  obtain ⟨n, hes⟩ : ∃ n, es.length = n := ⟨_, rfl⟩
  rw [hes]
  have HN := hide hes
  clear hes
  by_cases hbig : 65536 < n
  · have hbig' : (65536 : Int) < n := by omega
    go_enter Try.func19, Try.ntmps19
    go_wp2
    go_ret
    exact ⟨smallT es, one_more _ _⟩
  have hbig' : (n : Int) ≤ 65536 := by omega
  go_enter Try.func19, Try.ntmps19
  go_wp2
  · go_ret
    exact ⟨smallT es, one_more _ _⟩
  go_loopw [3, 4] (fun t i wr => ∃ (k : Nat) (s : Int), k ≤ n ∧ i = .int .i64 k ∧ t = .int .i64 s ∧ wr.cell? ⟨w.heap.size, 11, none⟩ = some (.slice ao n cap) ∧ Below w.heap.size w wr ∧ w.heap.size < wr.heap.size ∧ FitsTo es k) (fun _ i _ => n - (intOf i).toNat)
  case atStart => exact ⟨0, _, Nat.zero_le _, rfl, rfl, by go_simp, one_more _ _, by simp, fun j e hj => by omega⟩
  case round =>
    rename World => wa
    obtain ⟨k, s, hk, rfl, rfl, m1, hbel, hsz, hft⟩ := hrel
    by_cases hlt : k < n
    · obtain ⟨e, he⟩ : ∃ e, es[k]? = some e := ⟨_, List.getElem?_eq_getElem (by rw [HN.out]; exact hlt)⟩
      rcases hm with hm | ⟨b, off, rfl, hb, hc⟩
      · simp [hm] at he
      obtain ⟨ca, cc, ma, mc, c0, c1, c2, c3, c4, hwi⟩ := hc k _ he
      have hwm := hwi.mem
      replace c0 := (hbel.cell (p := ⟨b, _, none⟩) hb).trans c0
      replace c1 := (hbel.cell (p := ⟨b, _, none⟩) hb).trans c1
      replace c2 := (hbel.cell (p := ⟨b, _, none⟩) hb).trans c2
      replace c3 := (hbel.cell (p := ⟨b, _, none⟩) hb).trans c3
      replace c4 := (hbel.cell (p := ⟨b, _, none⟩) hb).trans c4
      have hbw : b < wa.heap.size := Nat.lt_of_lt_of_le hb hbel.size
      have hlt' : (k : Int) < (n : Int) := by omega
      have HE := hide he
      have hB1 := hide (fun o => hbel.trans ((one_more wa o).mono hbel.size))
      clear he hc hwi
      by_cases t1 : (1048576 : Int) < e.cmd.length
      · go_wp2
        go_ret
        exact ⟨smallT es, hB1.out _⟩
      have t1' : decide ((1048576 : Int) < e.cmd.length) = false := by simpa using t1
      by_cases t2 : (65536 : Int) < e.mem.length
      · go_wp2
        go_ret
        exact ⟨smallT es, hB1.out _⟩
      go_wp2
      · go_ret
        exact ⟨smallT es, hB1.out _⟩
      · go_ret
        exact ⟨smallT es, hB1.out _⟩
      have hft' := hft.step HE.out (by omega) (by omega)
      go_loop [3, 6] (fun t i => ∃ (j : Nat) (s : Int), j ≤ e.mem.length ∧ i = .int .i64 j ∧ t = .int .i64 s) (fun _ i => e.mem.length - (intOf i).toNat)
      case atStart => exact ⟨0, _, Nat.zero_le _, rfl, rfl⟩
      case round =>
        obtain ⟨j, s2, hj, rfl, rfl⟩ := hrel
        by_cases hltj : j < e.mem.length
        · obtain ⟨mb, hmb⟩ : ∃ mb, e.mem[j]? = some mb := ⟨_, List.getElem?_eq_getElem hltj⟩
          rcases hwm with hwm | ⟨g, of1, rfl, hg, hc⟩
          · simp [hwm] at hmb
          obtain ⟨pp, x0, x1, x2, x3, x4, x5, hma⟩ := hc j _ hmb
          replace x1 := (hbel.cell (p := ⟨g, _, none⟩) hg).trans x1
          have hg' : g < wa.heap.size := Nat.lt_of_lt_of_le hg hbel.size
          have hltj' : (j : Int) < (e.mem.length : Int) := by omega
          clear hc hmb hma hg x0 x2 x3 x4 x5
          go_wp2
          · go_ret
            exact ⟨smallT es, hB1.out _⟩
          · go_ret
            exact ⟨smallT es, hB1.out _⟩
          · go_round
            case rel => exact ⟨j + 1, _, by omega, by go_num, rfl⟩
            case measure => simp [intOf]; omega
        · go_wp2
          go_roundw
          case rel => exact ⟨k + 1, _, by omega, by go_num, rfl, ((one_more wa _).cell hsz).trans m1, hB1.out _, by simp; omega, hft'⟩
          case measure => simp [intOf]; omega
    · go_wp2
      go_ret
      exact ⟨⟨_, rfl, fun _ => FitsTo.fits (by rw [HN.out]; rwa [show k = n by omega] at hft) (by rw [HN.out]; omega)⟩, hbel⟩
end Go.Proofs.Qxb6614540a.V
