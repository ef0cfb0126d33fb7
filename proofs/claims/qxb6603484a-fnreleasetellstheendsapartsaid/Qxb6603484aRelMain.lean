/-
  THE WALK of FnReleaseTellsTheEndsApart.
-/
import Derived.Test.Qxb6603484aToRec
import Derived.Test.Qxb6603484aOn
namespace Go.Proofs.Qxb6603484a
open Go.RowKit
set_option linter.unusedVariables false

/-- The Rec with its links copied. -/
def RecD.linked (c : RecD) (la : Option Addr) : RecD := { c with la := la, lc := c.ln }

theorem linked_cells (c : RecD) (p : Option Addr) : c.cells.setIfInBounds 13 (.slice p c.ln c.ln) = (c.linked p).cells := by
  simp only [RecD.cells, RecD.linked, List.setIfInBounds_toArray, List.set_cons_succ, List.set_cons_zero]
theorem cell_far (w : World) (a x : Addr) (u : Value) (h : x.block ≠ a.block) : (w.setCell a u).cell? x = w.cell? x := World.cell?_of_block (Below.heap_setCell w a u x.block h)

/-- The message sent the other way. -/
def MsgD.swap (m : MsgD) : MsgD := { m with opc := m.dpc, dpc := m.opc }
theorem swap_cells (m : MsgD) : (m.cells.setIfInBounds 2 (.int .u32 m.dpc)).setIfInBounds 3 (.int .u32 m.opc) = m.swap.cells := by
  simp only [MsgD.cells, MsgD.swap, List.setIfInBounds_toArray, List.set_cons_succ, List.set_cons_zero]

/-- What stands from here on: the two boxes, the message turned round, the links. -/
structure St (w : World) (BK : Nat) (d : RecD) (m : MsgD) (s : Nat → ByteArray) (W : World) : Prop where
  bc : Blk W w.heap.size d.cells 26
  bm : Blk W (w.heap.size + 1) m.cells 28
  bk : Blk W BK m.swap.cells 28
  bl : SRow W d.la d.ln s
  bb : Below w.heap.size w W
theorem St.later {w : World} {BK : Nat} {d : RecD} {m : MsgD} {s : Nat → ByteArray} {W w1 : World} (h : St w BK d m s W) (hb : Below W.heap.size W w1) : St w BK d m s w1 :=
  ⟨h.bc.later hb, h.bm.later hb, h.bk.later hb, h.bl.later hb, h.bb.trans (hb.mono h.bb.size)⟩

theorem St.drew {w : World} {BK : Nat} {d : RecD} {m : MsgD} {s : Nat → ByteArray} {W : World} (h : St w BK d m s W) : St w BK d m s W.drew := ⟨h.bc, h.bm, h.bk, h.bl, h.bb.drew⟩
theorem keep_st {w : World} {BK : Nat} {d : RecD} {m : MsgD} {s : Nat → ByteArray} {W w1 : World} (h : (∀ j, W.cell? ⟨w.heap.size, j, none⟩ = d.cells[j]?) ∧ St w BK d m s W) (hb : Below W.heap.size W w1) :
    (∀ j, w1.cell? ⟨w.heap.size, j, none⟩ = d.cells[j]?) ∧ St w BK d m s w1 := ⟨(h.2.later hb).bc.cell, h.2.later hb⟩

theorem keep_st2 {w : World} {BK K : Nat} {C : Array Value} {d : RecD} {m : MsgD} {s : Nat → ByteArray} {W w1 : World} (h : (∀ j, W.cell? ⟨w.heap.size, j, none⟩ = d.cells[j]?) ∧ (St w BK d m s W ∧ Blk W K C 62)) (hb : Below W.heap.size W w1) :
    (∀ j, w1.cell? ⟨w.heap.size, j, none⟩ = d.cells[j]?) ∧ (St w BK d m s w1 ∧ Blk w1 K C 62) := ⟨(h.2.1.later hb).bc.cell, h.2.1.later hb, h.2.2.later hb⟩

theorem undrew {B : Nat} {w w1 : World} (h : Below B w.drew w1) : Below B w w1 := ⟨h.os, h.tape, h.output, h.size, h.block⟩

theorem parties (d : RecD) (m : MsgD) (h : OnC d m) :
    ((d.released m).party = ⟨#[99, 97, 108, 108, 105, 110, 103]⟩ ∧ (d.released m.swap).party = ⟨#[99, 97, 108, 108, 105, 110, 103]⟩ ∧ (d.opc == d.dpc) = true) ∨
    ((d.released m).party = ⟨#[99, 97, 108, 108, 105, 110, 103]⟩ ∧ (d.released m.swap).party = ⟨#[99, 97, 108, 108, 101, 100]⟩ ∧ (d.opc == d.dpc) = false) ∨
    ((d.released m).party = ⟨#[99, 97, 108, 108, 101, 100]⟩ ∧ (d.released m.swap).party = ⟨#[99, 97, 108, 108, 105, 110, 103]⟩ ∧ (d.opc == d.dpc) = false) := by
  obtain ⟨_, h⟩ := h
  unfold RecD.released MsgD.swap bCalling bCalled
  simp only
  by_cases e : d.opc = d.dpc
  · left
    have h1 : m.opc = d.opc := by omega
    have h2 : m.dpc = d.opc := by omega
    rw [if_pos h1, if_pos h2]
    exact ⟨rfl, rfl, by simpa using e⟩
  · rcases h with ⟨h1, h2⟩ | ⟨h1, h2⟩
    · right; left
      rw [if_pos h1, if_neg (by omega)]
      exact ⟨rfl, rfl, by simpa using e⟩
    · right; right
      rw [if_neg (by omega), if_pos h2]
      exact ⟨rfl, rfl, by simpa using e⟩

theorem want_cells (d : RecD) (m : MsgD) (P : ByteArray) (h : (d.released m).party = P) :
    (((d.cells.setIfInBounds 7 (.int .i64 m.tm)).setIfInBounds 9 (.int .u8 m.cause)).setIfInBounds 10 (.bool m.hc)).setIfInBounds 8 (.string P) = (d.released m).cells := by
  subst h
  simp only [RecD.cells, RecD.released, List.setIfInBounds_toArray, List.set_cons_succ, List.set_cons_zero]
theorem want_cells2 (d : RecD) (m : MsgD) (P : ByteArray) (h : (d.released m.swap).party = P) :
    (d.released m).cells.setIfInBounds 8 (.string P) = (d.released m.swap).cells := by
  subst h
  simp only [RecD.cells, RecD.released, MsgD.swap, List.setIfInBounds_toArray, List.set_cons_succ, List.set_cons_zero]
theorem released_ok {d : RecD} {m : MsgD} (h : d.Ok) (h1 : -9223372036854775808 ≤ m.tm) (h2 : m.tm ≤ 9223372036854775807) : (d.released m).Ok := ⟨h.st1, h.st2, h.an1, h.an2, h1, h2⟩

def z26 : Array Value := #[.int .i64 0, .int .u32 0, .int .u32 0, .int .u16 0, .string { data := #[] }, .string { data := #[] }, .int .i64 0, .int .i64 0, .string { data := #[] }, .int .u8 0, .bool false, .bool false, .int .i64 0, .slice none 0 0]
def z38 : Array Value := #[.int .u64 0, .int .i64 0, .pointer none, .int .u32 0, .int .u32 0, .int .u16 0, .string { data := #[] }, .string { data := #[] }, .int .u64 0, .int .i64 0, .pointer none, .int .u64 0, .int .i64 0, .pointer none, .string { data := #[] }, .int .u8 0, .bool false, .bool false, .int .i64 0, .slice none 0 0]
def z28 : Array Value := #[.int .i64 0, .string { data := #[] }, .int .u32 0, .int .u32 0, .int .u16 0, .int .u8 0, .string { data := #[] }, .string { data := #[] }, .int .u8 0, .bool false]

theorem z38_size : z38.size = 20 := rfl
theorem z26_size : z26.size = 14 := rfl
theorem z28_size : z28.size = 10 := rfl
theorem put38 (w : World) (c : RecD) : ∃ w1, (storeCells ⟨w.heap.size, 0, none⟩ c.rc.toList).run Try.prog (w.alloc (.cells z38 38)) = .ok () w1 ∧ Blk w1 w.heap.size c.rc 38 ∧ Below w.heap.size w w1 :=
  ⟨(w.alloc (.cells z38 38)).setCells w.heap.size 0 c.rc.toList, run_storeList _ _ _ 20 c.rc_size ((Blk.new w z38 38).there 20 (by rw [z38_size]; exact Nat.le_refl _)) c.rc_one,
    (Blk.new w z38 38).setCells (D := c.rc) (by rw [z38_size]; exact c.rc_size), below_setCells _ (Nat.le_refl _) _ _ _ ((Below.refl _ _).alloc (Nat.le_refl _) _)⟩
theorem put26 (w : World) (c : RecD) : ∃ w1, (storeCells ⟨w.heap.size, 0, none⟩ c.cells.toList).run Try.prog (w.alloc (.cells z26 26)) = .ok () w1 ∧ Blk w1 w.heap.size c.cells 26 ∧ Below w.heap.size w w1 :=
  ⟨(w.alloc (.cells z26 26)).setCells w.heap.size 0 c.cells.toList, run_storeList _ _ _ 14 c.cells_size ((Blk.new w z26 26).there 14 (by rw [z26_size]; exact Nat.le_refl _)) c.cells_one,
    (Blk.new w z26 26).setCells (D := c.cells) (by rw [z26_size]; exact c.cells_size), below_setCells _ (Nat.le_refl _) _ _ _ ((Below.refl _ _).alloc (Nat.le_refl _) _)⟩
theorem put28 (w : World) (m : MsgD) : ∃ w1, (storeCells ⟨w.heap.size, 0, none⟩ m.cells.toList).run Try.prog (w.alloc (.cells z28 28)) = .ok () w1 ∧ Blk w1 w.heap.size m.cells 28 ∧ Below w.heap.size w w1 :=
  ⟨(w.alloc (.cells z28 28)).setCells w.heap.size 0 m.cells.toList, run_storeList _ _ _ 10 m.cells_size ((Blk.new w z28 28).there 10 (by rw [z28_size]; exact Nat.le_refl _)) m.cells_one,
    (Blk.new w z28 28).setCells (D := m.cells) (by rw [z28_size]; exact m.cells_size), below_setCells _ (Nat.le_refl _) _ _ _ ((Below.refl _ _).alloc (Nat.le_refl _) _)⟩

set_option maxRecDepth 100000 in
set_option maxHeartbeats 20000000 in
theorem release_main (c : RecD) (m : MsgD) (s : Nat → ByteArray) (w : World) (hc : c.Ok) (hm1 : -9223372036854775808 ≤ m.tm) (hm2 : m.tm ≤ 9223372036854775807) (hz : Sized c m) (hno : c.la = none → c.ln = 0 ∧ c.lc = 0) (hl : SRow w c.la c.ln s) :
    Calls Try.prog 3 #[.agg c.cells, .agg m.cells] w fun r w' => r = .returned (.bool true) ∧ Below w.heap.size w w' := by
  have i26 : (Try.prog.info? 26).map (·.size) = some c.cells.size := Try.size26
  have i28 : (Try.prog.info? 28).map (·.size) = some m.cells.size := Try.size28
  have C0 : Blk ((w.alloc (.cells c.cells 26)).alloc (.cells m.cells 28)) w.heap.size c.cells 26 := (Blk.new w _ _).alloc _
  have M0 : Blk ((w.alloc (.cells c.cells 26)).alloc (.cells m.cells 28)) (w.heap.size + 1) m.cells 28 := by
    have := Blk.new (w.alloc (.cells c.cells 26)) m.cells 28
    simpa using this
  have b0 := below2 w (.cells c.cells 26) (.cells m.cells 28)
  have l0 := hl.later b0
  go_enter Try.func3, Try.ntmps3
  go_wp2_with (first
    | (refine wpList_load_row rfl 26 (.tmp 2) rfl w.heap.size rfl 26 c.cells (0, 0) _ (by exact C0) Try.underlying26 rfl i26 ?_)
    | (refine wpList_load_row rfl 28 (.tmp 3) rfl (w.heap.size + 1) rfl 28 m.cells (0, 0) _ (by exact M0) Try.underlying28 rfl i28 ?_))
  refine (zzBytes5_any c m s _ hz l0).mono ?_
  rintro r w1 ⟨hB | ⟨hB, _⟩, b1⟩
  · subst hB
    go_wp2_with fail
    go_ret
    exact ⟨rfl, b0.trans (b1.mono b0.size)⟩
  subst hB
  have C1 := C0.later b1
  have M1 := M0.later b1
  have l1 := l0.later b1
  have b01 := b0.trans (b1.mono b0.size)
  clear C0 M0 l0 b0 b1
  go_wp2_with (first
    | (refine wpList_load_row rfl 26 (.tmp 2) rfl w.heap.size rfl 26 c.cells (0, 0) _ (by exact C1) Try.underlying26 rfl i26 ?_)
    | (refine wpList_load_row rfl 28 (.tmp 3) rfl (w.heap.size + 1) rfl 28 m.cells (0, 0) _ (by exact M1) Try.underlying28 rfl i28 ?_))
  refine (relFits_any c m s _ hz l1).mono ?_
  rintro r w2 ⟨hB | ⟨hB, hn⟩, b2⟩
  · subst hB
    go_wp2_with fail
    go_ret
    exact ⟨rfl, b01.trans (b2.mono b01.size)⟩
  subst hB
  have C2 := C1.later b2
  have M2 := M1.later b2
  have l2 := l1.later b2
  have b02 := b01.trans (b2.mono b01.size)
  clear C1 M1 l1 b01 b2
  go_wp2_with (first
    | (refine wpList_load_row rfl 26 (.tmp 2) rfl w.heap.size rfl 26 c.cells (0, 0) _ (by exact C2) Try.underlying26 rfl i26 ?_)
    | (refine wpList_load_row rfl 28 (.tmp 3) rfl (w.heap.size + 1) rfl 28 m.cells (0, 0) _ (by exact M2) Try.underlying28 rfl i28 ?_))
  refine (onCircuit_any c m _).mono ?_
  rintro r w3 ⟨hB | ⟨hB, hon⟩, b3⟩
  · subst hB
    go_wp2_with fail
    go_ret
    exact ⟨rfl, b02.trans (b3.mono b02.size)⟩
  subst hB
  have C3 := C2.later b3
  have M3 := M2.later b3
  have l3 := l2.later b3
  have b03 := b02.trans (b3.mono b02.size)
  clear C2 M2 l2 b02 b3
  have cC3 := C3.cell
  have f13 : c.cells[13]? = some (.slice c.la c.ln c.lc) := rfl
  go_wp2_with fail
  refine (cloneStrings_new c.la c.ln c.lc s _ (by omega) hno l3).mono ?_
  rintro r w4 ⟨p, rfl, l4, b4⟩
  have C4 := C3.later b4
  have M4 := M3.later b4
  have b04 := b03.trans (b4.mono b03.size)
  have lt3 := M3.lt
  have C5 : Blk (w4.setCell ⟨w.heap.size, 13, none⟩ (.slice p c.ln c.ln)) w.heap.size (c.linked p).cells 26 := by
    have := C4.setCell 13 (.slice p c.ln c.ln)
    rwa [linked_cells] at this
  have M5 := M4.setCell_far ⟨w.heap.size, 13, none⟩ (.slice p c.ln c.ln) (by simp)
  have l5 : SRow (w4.setCell ⟨w.heap.size, 13, none⟩ (.slice p c.ln c.ln)) p c.ln s := by
    rcases l4 with h | ⟨b, rfl, hb, ht⟩
    · exact .inl h
    · exact .inr ⟨b, 0, rfl, fun i hi => by rw [cell_far _ _ _ _ (by simp; omega)]; exact ht i hi⟩
  have b05 := b04.setCell (p := ⟨w.heap.size, 13, none⟩) (Nat.le_refl _) (.slice p c.ln c.ln)
  have cC4 := C4.cell
  have fC4 := C4.frozen
  clear cC3 C3 M3 l3 b03 b4 M4 l4 b04 lt3 C4
  obtain ⟨d, hd⟩ : ∃ d, d = c.linked p := ⟨_, rfl⟩
  have okd : d.Ok := by rw [hd]; exact ⟨hc.st1, hc.st2, hc.an1, hc.an2, hc.re1, hc.re2⟩
  have ond : Hid (OnC d m) := by rw [hd]; exact hon
  have hdn : d.ln ≤ 65536 := by rw [hd]; exact hn
  rw [← hd] at C5
  have l5d : SRow (w4.setCell ⟨w.heap.size, 13, none⟩ (.slice p c.ln c.ln)) d.la d.ln s := by rw [hd]; exact l5
  clear l5 hon hn hc hz hl hno hd
  go_wp2_with fail
  clear cC4 fC4 f13
  generalize w4.setCell ⟨w.heap.size, 13, none⟩ (.slice p c.ln c.ln) = w5 at C5 M5 l5d b05 ⊢
  have g1 : d.cells[1]? = some (.int .u32 d.opc) := rfl
  have g2 : d.cells[2]? = some (.int .u32 d.dpc) := rfl
  have g3 : d.cells[3]? = some (.int .u16 d.cic) := rfl
  have j0 : m.cells[0]? = some (.int .i64 m.tm) := rfl
  have j1 : m.cells[1]? = some (.string m.link) := rfl
  have j2 : m.cells[2]? = some (.int .u32 m.opc) := rfl
  have j3 : m.cells[3]? = some (.int .u32 m.dpc) := rfl
  have j4 : m.cells[4]? = some (.int .u16 m.cic) := rfl
  have j5 : m.cells[5]? = some (.int .u8 m.typ) := rfl
  have j6 : m.cells[6]? = some (.string m.calling) := rfl
  have j7 : m.cells[7]? = some (.string m.called) := rfl
  have j8 : m.cells[8]? = some (.int .u8 m.cause) := rfl
  have j9 : m.cells[9]? = some (.bool m.hc) := rfl
  have cC5 := C5.cell
  by_cases hlt : d.dpc < d.opc
  · go_quiet (fail)
    have C6 := C5.drewN nq
    have M6 := M5.drewN nq
    have l6 : SRow (w5.drewN nq) d.la d.ln s := l5d
    have b06 := below_drewN b05 nq
    clear C5 M5 l5d b05 cC5
    generalize w5.drewN nq = w6 at C6 M6 l6 b06 ⊢
    -- back := m
    have ltM := M6.lt
    obtain ⟨w7, hst, K7, b67⟩ := put28 w6 m
    have C7 : Blk w7 w.heap.size d.cells 26 := C6.later b67
    have M7 : Blk w7 (w.heap.size + 1) m.cells 28 := M6.later b67
    have cM7 := M7.cell
    have fK7 := K7.frozen
    have cK7 := K7.cell
    have hms := m.cells_size
    have j2' : ∀ h : 2 < m.cells.size, m.cells[2]'h = .int .u32 m.opc := fun _ => rfl
    have j3' : ∀ h : 3 < m.cells.size, m.cells[3]'h = .int .u32 m.dpc := fun _ => rfl
    have ne1 : ¬ w6.heap.size = w.heap.size + 1 := by omega
    have ne2 : ¬ w6.heap.size = w.heap.size := by omega
    clear C6
    unfold z28 at hst
    go_wp2_with (first
      | (refine wpList_load_row rfl 28 (.tmp 3) rfl (w.heap.size + 1) rfl 28 m.cells (0, 0) _ (by exact M6) Try.underlying28 rfl i28 ?_))
    clear hms j2' j3' hst cM7 fK7 cK7 ne1 ne2
    have K8 : Blk ((w7.setCell ⟨w6.heap.size, 2, none⟩ (.int .u32 m.dpc)).setCell ⟨w6.heap.size, 3, none⟩ (.int .u32 m.opc)) w6.heap.size m.swap.cells 28 := by
      have := (K7.setCell 2 (.int .u32 m.dpc)).setCell 3 (.int .u32 m.opc)
      rwa [swap_cells] at this
    have b68 : Below w6.heap.size w6 ((w7.setCell ⟨w6.heap.size, 2, none⟩ (.int .u32 m.dpc)).setCell ⟨w6.heap.size, 3, none⟩ (.int .u32 m.opc)) := (b67.setCell (p := ⟨w6.heap.size, 2, none⟩) (Nat.le_refl _) _).setCell (p := ⟨w6.heap.size, 3, none⟩) (Nat.le_refl _) _
    have S8 : St w w6.heap.size d m s ((w7.setCell ⟨w6.heap.size, 2, none⟩ (.int .u32 m.dpc)).setCell ⟨w6.heap.size, 3, none⟩ (.int .u32 m.opc)) :=
      ⟨(C7.setCell_far _ _ (by show w.heap.size ≠ w6.heap.size; omega)).setCell_far _ _ (by show w.heap.size ≠ w6.heap.size; omega), (M7.setCell_far _ _ (by show w.heap.size + 1 ≠ w6.heap.size; omega)).setCell_far _ _ (by show w.heap.size + 1 ≠ w6.heap.size; omega), K8, l6.later b68, b06.trans (b68.mono b06.size)⟩
    clear K8 b68 b67 C7 M7 K7 l6 b06 M6 ltM
    generalize (w7.setCell ⟨w6.heap.size, 2, none⟩ (.int .u32 m.dpc)).setCell ⟨w6.heap.size, 3, none⟩ (.int .u32 m.opc) = w8 at S8 ⊢
    generalize w6.heap.size = BK at S8 ⊢
    have c8 := S8.bc.cell
    have f0 : d.cells[0]? = some (.int .i64 d.st) := rfl
    have f4 : d.cells[4]? = some (.string d.calling) := rfl
    have f5 : d.cells[5]? = some (.string d.called) := rfl
    have f6 : d.cells[6]? = some (.int .i64 d.ans) := rfl
    have f7 : d.cells[7]? = some (.int .i64 d.rel) := rfl
    have f8 : d.cells[8]? = some (.string d.party) := rfl
    have f9 : d.cells[9]? = some (.int .u8 d.cause) := rfl
    have f10 : d.cells[10]? = some (.bool d.hc) := rfl
    have f11 : d.cells[11]? = some (.bool d.cl) := rfl
    have f12 : d.cells[12]? = some (.int .i64 d.msgs) := rfl
    have f13 : d.cells[13]? = some (.slice d.la d.ln d.lc) := rfl
    go_region_held3 (fun W => (∀ j, W.cell? ⟨w.heap.size, j, none⟩ = d.cells[j]?) ∧ St w BK d m s W)
      (first | with_reducible exact keep_st (by assumption) (by assumption) | exact ⟨c8, S8.drew⟩)
      (first
        | (go_at_call 10; refine (toRecord_any d _ okd).mono ?_; rintro r w9a ⟨rfl, hb9a⟩)
        | (go_at_call 9; refine (newCall_any d _ _ _ _ _).mono ?_; rintro r w9 ⟨K1, rfl, hK1, B1, hb9⟩))
    have S9 : St w BK d m s w9 := (by with_reducible assumption : (∀ j, w9.cell? ⟨w.heap.size, j, none⟩ = d.cells[j]?) ∧ St w BK d m s w9).2
    have c9 := S9.bc.cell
    have x9 : Below w8.heap.size w8 w9 := (undrew hb9a).trans (hb9.mono (undrew hb9a).size)
    have k1lo : w8.heap.size ≤ K1 := Nat.le_trans (undrew hb9a).size hK1
    have k1hi := B1.lt
    clear c8 hb9a hb9 hK1
    go_wp2_with fail
    go_region_held3 (fun W => (∀ j, W.cell? ⟨w.heap.size, j, none⟩ = d.cells[j]?) ∧ (St w BK d m s W ∧ Blk W K1 (callC d d.cic d.dpc d.opc false) 62))
      (first | with_reducible exact keep_st2 (by assumption) (by assumption) | exact ⟨c9, S9.drew, B1.drew⟩)
      (first
        | (go_at_call 10; refine (toRecord_any d _ okd).mono ?_; rintro r w10a ⟨rfl, hb10a⟩)
        | (go_at_call 9; refine (newCall_any d _ _ _ _ _).mono ?_; rintro r w10 ⟨K2, rfl, hK2, B2, hb10⟩))
    have x10 : Below w9.heap.size w9 w10 := (undrew hb10a).trans (hb10.mono (undrew hb10a).size)
    have k12 : K1 < K2 := Nat.lt_of_lt_of_le k1hi (Nat.le_trans (undrew hb10a).size hK2)
    have k2hi := B2.lt
    have B1' := B1.later x10
    have y10 := x9.trans (x10.mono x9.size)
    clear B1 c9 hb10a hb10 hK2 S9 x9 x10 k1hi
    have S10 := S8.later y10
    have cM10 := S10.bm.cell
    go_wp2_with fail
    refine (newMessage_any m _ hm1 hm2).mono ?_
    rintro r w11 ⟨M1, rfl, hM1, BM1, hb11⟩
    have y11 := y10.trans (hb11.mono y10.size)
    have S11 := S8.later y11
    have cK11 := S11.bk.cell
    have B1a := B1'.later hb11
    have B2a := B2.later hb11
    have m1hi := BM1.lt
    have p0 : m.swap.cells[0]? = some (.int .i64 m.swap.tm) := rfl
    have p1 : m.swap.cells[1]? = some (.string m.swap.link) := rfl
    have p2 : m.swap.cells[2]? = some (.int .u32 m.swap.opc) := rfl
    have p3 : m.swap.cells[3]? = some (.int .u32 m.swap.dpc) := rfl
    have p4 : m.swap.cells[4]? = some (.int .u16 m.swap.cic) := rfl
    have p5 : m.swap.cells[5]? = some (.int .u8 m.swap.typ) := rfl
    have p6 : m.swap.cells[6]? = some (.string m.swap.calling) := rfl
    have p7 : m.swap.cells[7]? = some (.string m.swap.called) := rfl
    have p8 : m.swap.cells[8]? = some (.int .u8 m.swap.cause) := rfl
    have p9 : m.swap.cells[9]? = some (.bool m.swap.hc) := rfl
    have k2m1 : K2 < M1 := Nat.lt_of_lt_of_le k2hi hM1
    clear B1' B2 cM10 S10 hM1 k2hi y10 hb11
    go_wp2_with fail
    refine (newMessage_any m.swap _ hm1 hm2).mono ?_
    rintro r w12 ⟨M2, rfl, hM2, BM2, hb12⟩
    have y12 := y11.trans (hb12.mono y11.size)
    have B1b := B1a.later hb12
    have B2b := B2a.later hb12
    have BM1b := BM1.later hb12
    have m12 : M1 < M2 := Nat.lt_of_lt_of_le m1hi hM2
    clear B1a B2a BM1 hb12 hM2 m1hi S11 cK11 y11 p0 p1 p2 p3 p4 p5 p6 p7 p8 p9
    go_wp2_with fail
    refine (zzrelease_any K1 M1 d m d.cic d.dpc d.opc false _ B1b BM1b (by omega)).mono ?_
    rintro r w13 ⟨rfl, R1k, o13⟩
    have y13 := y12.trans (o13.below k1lo)
    have B2c := o13.blk B2b (by omega)
    have BM2c := o13.blk BM2 (by omega)
    clear B1b B2b BM1b BM2 o13 y12
    go_wp2_with fail
    refine (zzrelease_any K2 M2 d m.swap d.cic d.dpc d.opc false _ B2c BM2c (by omega)).mono ?_
    rintro r w14 ⟨rfl, R2k, o14⟩
    have y14 := y13.trans (o14.below (by omega))
    have R1d := o14.blk R1k (by omega)
    clear B2c BM2c o14 y13 R1k
    go_wp2_with fail
    refine (callRecord_any K1 (d.released m) d.cic d.dpc d.opc false _ R1d).mono ?_
    rintro r w15 ⟨rfl, hb15⟩
    have y15 := y14.trans (hb15.mono y14.size)
    have R1e := R1d.later hb15
    have R2e := R2k.later hb15
    have k1e := R1e.lt
    have k2e := R2e.lt
    obtain ⟨w16, hst, A16, x16⟩ := put38 w15 (d.released m)
    have hrs := RecD.rc_size (d.released m)
    have y16 := y15.trans (x16.mono y15.size)
    have R1f := R1e.later x16
    have R2f := R2e.later x16
    have a16 := A16.lt
    clear R1d R2k hb15 y14 y15 R1e R2e x16
    unfold z38 at hst
    go_wp2_with fail
    refine (callRecord_any K2 (d.released m.swap) d.cic d.dpc d.opc false _ R2f).mono ?_
    rintro r w17 ⟨rfl, hb17⟩
    have y17 := y16.trans (hb17.mono y16.size)
    have A17 := A16.later hb17
    have R1g := R1f.later hb17
    have R2g := R2f.later hb17
    have a17 := A17.lt
    obtain ⟨RA, hRA⟩ : ∃ RA, w15.heap.size = RA := ⟨_, rfl⟩
    rw [hRA] at A17 a17 k1e k2e ⊢
    clear A16 R1f R2f hst hrs a16 hRA
    obtain ⟨w18, hst, B18, x18⟩ := put38 w17 (d.released m.swap)
    have hrs := RecD.rc_size (d.released m.swap)
    have y18 := y17.trans (x18.mono y17.size)
    have A18 := A17.later x18
    have R1h := R1g.later x18
    have R2h := R2g.later x18
    have b18 := B18.lt
    clear A17 R1g R2g hb17 y16 y17 x18
    unfold z38 at hst
    have S18 := S8.later y18
    have cA := A18.cell
    have cB := B18.cell
    have cC := S18.bc.cell
    have cM := S18.bm.cell
    have i26d : (Try.prog.info? 26).map (·.size) = some d.cells.size := Try.size26
    have wb := S18.bm.lt
    obtain ⟨w19, hst2, D19, x19⟩ := put26 w18 d
    have y19 := y18.trans (x19.mono y18.size)
    have A19 := A18.later x19
    have B19 := B18.later x19
    have R1i := R1h.later x19
    have R2i := R2h.later x19
    have S19 := S8.later y19
    unfold z26 at hst2
    have hds := RecD.cells_size d
    have cD19 := D19.cell
    have fD19 := D19.frozen
    have cM19 := S19.bm.cell
    have cA19 := A19.cell
    have hra := A18.lt
    have hk1 := R1h.lt
    have hk2 := R2h.lt
    have s8lt : w8.heap.size ≤ w18.heap.size := y18.size
    have g1' : ∀ h : 1 < d.cells.size, d.cells[1]'h = .int .u32 d.opc := fun _ => rfl
    have g2' : ∀ h : 2 < d.cells.size, d.cells[2]'h = .int .u32 d.dpc := fun _ => rfl
    have ne1 : ¬ w18.heap.size = w.heap.size + 1 := by omega
    have ne2 : ¬ w18.heap.size = RA := by omega
    have ne3 : ¬ w18.heap.size = w.heap.size := by omega
    rcases parties d m ond.out with ⟨e1, e2, e3⟩ | ⟨e1, e2, e3⟩ | ⟨e1, e2, e3⟩
    · exfalso
      have : d.opc = d.dpc := by simpa using e3
      omega
    · have r14 : (d.released m).rc[14]? = some (.string ⟨#[99, 97, 108, 108, 105, 110, 103]⟩) := by rw [← e1]; rfl
      have q14 : (d.released m.swap).rc[14]? = some (.string ⟨#[99, 97, 108, 108, 101, 100]⟩) := by rw [← e2]; rfl
      have q14' : ∀ h : 14 < (d.released m.swap).rc.size, (d.released m.swap).rc[14]'h = .string ⟨#[99, 97, 108, 108, 101, 100]⟩ := fun _ => by rw [← e2]; rfl
      have D22 : Blk ((((w19.setCell ⟨w18.heap.size, 7, none⟩ (.int .i64 m.tm)).setCell ⟨w18.heap.size, 9, none⟩ (.int .u8 m.cause)).setCell ⟨w18.heap.size, 10, none⟩ (.bool m.hc)).setCell ⟨w18.heap.size, 8, none⟩ (.string ⟨#[99, 97, 108, 108, 105, 110, 103]⟩)) w18.heap.size (d.released m).cells 26 := by
        have := (((D19.setCell 7 (.int .i64 m.tm)).setCell 9 (.int .u8 m.cause)).setCell 10 (.bool m.hc)).setCell 8 (.string ⟨#[99, 97, 108, 108, 105, 110, 103]⟩)
        rwa [want_cells d m _ e1] at this
      have x22 : Below w18.heap.size w18 ((((w19.setCell ⟨w18.heap.size, 7, none⟩ (.int .i64 m.tm)).setCell ⟨w18.heap.size, 9, none⟩ (.int .u8 m.cause)).setCell ⟨w18.heap.size, 10, none⟩ (.bool m.hc)).setCell ⟨w18.heap.size, 8, none⟩ (.string ⟨#[99, 97, 108, 108, 105, 110, 103]⟩)) :=
        (((x19.setCell (p := ⟨w18.heap.size, 7, none⟩) (Nat.le_refl _) _).setCell (p := ⟨w18.heap.size, 9, none⟩) (Nat.le_refl _) _).setCell (p := ⟨w18.heap.size, 10, none⟩) (Nat.le_refl _) _).setCell (p := ⟨w18.heap.size, 8, none⟩) (Nat.le_refl _) _
      have A22 := A18.later x22
      have i38 : (Try.prog.info? 38).map (·.size) = some (d.released m).rc.size := Try.size38
      have i26r : (Try.prog.info? 26).map (·.size) = some (d.released m).cells.size := Try.size26
      go_wp2_with (first
        | (refine wpList_load_row rfl 26 (.tmp 2) rfl w.heap.size rfl 26 d.cells (0, 0) _ ?_ Try.underlying26 rfl i26d ?_; exact S18.bc)
        | (refine wpList_load_row rfl 38 (.tmp 14) rfl RA rfl 38 (d.released m).rc (0, 0) _ ?_ Try.underlying38 rfl i38 ?_; exact A22)
        | (refine wpList_load_row rfl 26 (.tmp 18) rfl w18.heap.size rfl 26 (d.released m).cells (0, 0) _ ?_ Try.underlying26 rfl i26r ?_; exact D22))
      have y22 := y18.trans (x22.mono y18.size)
      have S22 := S8.later y22
      have B22 := B18.later x22
      have R1j := R1h.later x22
      have R2j := R2h.later x22
      refine (recordIs_any (d.released m) s _ (released_ok okd hm1 hm2) hdn S22.bl).mono ?_
      rintro r w23 ⟨rfl, hb23⟩
      have B23 := B22.later hb23
      have D23 := D22.later hb23
      have R1k := R1j.later hb23
      have R2k := R2j.later hb23
      have y23 := y22.trans (hb23.mono y22.size)
      have x23 := x22.trans (hb23.mono x22.size)
      clear A22 D22 x22 i38 B22 R1j R2j hb23 y22 S22 S19 cM19 cA19 cD19 fD19 A19 B19 R1i R2i x19 y19 hst2 D19 hst hrs
      have hb17 := B18.lt
      have D24 : Blk (w23.setCell ⟨w18.heap.size, 8, none⟩ (.string ⟨#[99, 97, 108, 108, 101, 100]⟩)) w18.heap.size (d.released m.swap).cells 26 := by
        have := D23.setCell 8 (.string ⟨#[99, 97, 108, 108, 101, 100]⟩)
        rwa [want_cells2 d m _ e2] at this
      have B24 : Blk (w23.setCell ⟨w18.heap.size, 8, none⟩ (.string ⟨#[99, 97, 108, 108, 101, 100]⟩)) w17.heap.size (d.released m.swap).rc 38 := B23.setCell_far _ _ (by show w17.heap.size ≠ w18.heap.size; omega)
      have x24 : Below w18.heap.size w18 (w23.setCell ⟨w18.heap.size, 8, none⟩ (.string ⟨#[99, 97, 108, 108, 101, 100]⟩)) := x23.setCell (p := ⟨w18.heap.size, 8, none⟩) (Nat.le_refl _) _
      have i38 : (Try.prog.info? 38).map (·.size) = some (d.released m.swap).rc.size := Try.size38
      have i26s : (Try.prog.info? 26).map (·.size) = some (d.released m.swap).cells.size := Try.size26
      have cB23 := B23.cell
      have cD23 := D23.cell
      have fD23 := D23.frozen
      have s8c : (d.released m).cells[8]? = some (.string (d.released m).party) := rfl
      go_wp2_with (first
        | (refine wpList_load_row rfl 38 (.tmp 15) rfl w17.heap.size rfl 38 (d.released m.swap).rc (0, 0) _ ?_ Try.underlying38 rfl i38 ?_; exact B24)
        | (refine wpList_load_row rfl 26 (.tmp 18) rfl w18.heap.size rfl 26 (d.released m.swap).cells (0, 0) _ ?_ Try.underlying26 rfl i26s ?_; exact D24))
      have y24 := y18.trans (x24.mono y18.size)
      have S24 := S8.later y24
      have R1l := R1h.later x24
      have R2l := R2h.later x24
      refine (recordIs_any (d.released m.swap) s _ (released_ok okd hm1 hm2) hdn S24.bl).mono ?_
      rintro r w25 ⟨rfl, hb25⟩
      have y25 := y24.trans (hb25.mono y24.size)
      have S25 := S8.later y25
      have R1m := R1l.later hb25
      have R2m := R2l.later hb25
      clear D24 B24 x24 cB23 cD23 fD23 B23 D23 R1k R2k y23 x23 y24 S24 R1l R2l hb25
      go_wp2_with fail
      refine (callCircuit_any K1 _ d.cic d.dpc d.opc false _ R1m).mono ?_
      rintro r w26 ⟨rfl, n1, rfl⟩
      go_wp2_with fail
      refine (callCircuit_any K2 _ d.cic d.dpc d.opc false _ (R2m.drewN n1)).mono ?_
      rintro r w27 ⟨rfl, n2, rfl⟩
      have cF := S25.bc.cell
      have g3' : ∀ h : 3 < d.cells.size, d.cells[3]'h = .int .u16 d.cic := fun _ => rfl
      go_wp2_with fail
      go_ret
      exact ⟨rfl, below_drewN S25.bb (n1 + n2)⟩
    · have r14 : (d.released m).rc[14]? = some (.string ⟨#[99, 97, 108, 108, 101, 100]⟩) := by rw [← e1]; rfl
      have q14 : (d.released m.swap).rc[14]? = some (.string ⟨#[99, 97, 108, 108, 105, 110, 103]⟩) := by rw [← e2]; rfl
      have q14' : ∀ h : 14 < (d.released m.swap).rc.size, (d.released m.swap).rc[14]'h = .string ⟨#[99, 97, 108, 108, 105, 110, 103]⟩ := fun _ => by rw [← e2]; rfl
      have D22 : Blk ((((w19.setCell ⟨w18.heap.size, 7, none⟩ (.int .i64 m.tm)).setCell ⟨w18.heap.size, 9, none⟩ (.int .u8 m.cause)).setCell ⟨w18.heap.size, 10, none⟩ (.bool m.hc)).setCell ⟨w18.heap.size, 8, none⟩ (.string ⟨#[99, 97, 108, 108, 101, 100]⟩)) w18.heap.size (d.released m).cells 26 := by
        have := (((D19.setCell 7 (.int .i64 m.tm)).setCell 9 (.int .u8 m.cause)).setCell 10 (.bool m.hc)).setCell 8 (.string ⟨#[99, 97, 108, 108, 101, 100]⟩)
        rwa [want_cells d m _ e1] at this
      have x22 : Below w18.heap.size w18 ((((w19.setCell ⟨w18.heap.size, 7, none⟩ (.int .i64 m.tm)).setCell ⟨w18.heap.size, 9, none⟩ (.int .u8 m.cause)).setCell ⟨w18.heap.size, 10, none⟩ (.bool m.hc)).setCell ⟨w18.heap.size, 8, none⟩ (.string ⟨#[99, 97, 108, 108, 101, 100]⟩)) :=
        (((x19.setCell (p := ⟨w18.heap.size, 7, none⟩) (Nat.le_refl _) _).setCell (p := ⟨w18.heap.size, 9, none⟩) (Nat.le_refl _) _).setCell (p := ⟨w18.heap.size, 10, none⟩) (Nat.le_refl _) _).setCell (p := ⟨w18.heap.size, 8, none⟩) (Nat.le_refl _) _
      have A22 := A18.later x22
      have i38 : (Try.prog.info? 38).map (·.size) = some (d.released m).rc.size := Try.size38
      have i26r : (Try.prog.info? 26).map (·.size) = some (d.released m).cells.size := Try.size26
      go_wp2_with (first
        | (refine wpList_load_row rfl 26 (.tmp 2) rfl w.heap.size rfl 26 d.cells (0, 0) _ ?_ Try.underlying26 rfl i26d ?_; exact S18.bc)
        | (refine wpList_load_row rfl 38 (.tmp 14) rfl RA rfl 38 (d.released m).rc (0, 0) _ ?_ Try.underlying38 rfl i38 ?_; exact A22)
        | (refine wpList_load_row rfl 26 (.tmp 18) rfl w18.heap.size rfl 26 (d.released m).cells (0, 0) _ ?_ Try.underlying26 rfl i26r ?_; exact D22))
      have y22 := y18.trans (x22.mono y18.size)
      have S22 := S8.later y22
      have B22 := B18.later x22
      have R1j := R1h.later x22
      have R2j := R2h.later x22
      refine (recordIs_any (d.released m) s _ (released_ok okd hm1 hm2) hdn S22.bl).mono ?_
      rintro r w23 ⟨rfl, hb23⟩
      have B23 := B22.later hb23
      have D23 := D22.later hb23
      have R1k := R1j.later hb23
      have R2k := R2j.later hb23
      have y23 := y22.trans (hb23.mono y22.size)
      have x23 := x22.trans (hb23.mono x22.size)
      clear A22 D22 x22 i38 B22 R1j R2j hb23 y22 S22 S19 cM19 cA19 cD19 fD19 A19 B19 R1i R2i x19 y19 hst2 D19 hst hrs
      have hb17 := B18.lt
      have D24 : Blk (w23.setCell ⟨w18.heap.size, 8, none⟩ (.string ⟨#[99, 97, 108, 108, 105, 110, 103]⟩)) w18.heap.size (d.released m.swap).cells 26 := by
        have := D23.setCell 8 (.string ⟨#[99, 97, 108, 108, 105, 110, 103]⟩)
        rwa [want_cells2 d m _ e2] at this
      have B24 : Blk (w23.setCell ⟨w18.heap.size, 8, none⟩ (.string ⟨#[99, 97, 108, 108, 105, 110, 103]⟩)) w17.heap.size (d.released m.swap).rc 38 := B23.setCell_far _ _ (by show w17.heap.size ≠ w18.heap.size; omega)
      have x24 : Below w18.heap.size w18 (w23.setCell ⟨w18.heap.size, 8, none⟩ (.string ⟨#[99, 97, 108, 108, 105, 110, 103]⟩)) := x23.setCell (p := ⟨w18.heap.size, 8, none⟩) (Nat.le_refl _) _
      have i38 : (Try.prog.info? 38).map (·.size) = some (d.released m.swap).rc.size := Try.size38
      have i26s : (Try.prog.info? 26).map (·.size) = some (d.released m.swap).cells.size := Try.size26
      have cB23 := B23.cell
      have cD23 := D23.cell
      have fD23 := D23.frozen
      have s8c : (d.released m).cells[8]? = some (.string (d.released m).party) := rfl
      go_wp2_with (first
        | (refine wpList_load_row rfl 38 (.tmp 15) rfl w17.heap.size rfl 38 (d.released m.swap).rc (0, 0) _ ?_ Try.underlying38 rfl i38 ?_; exact B24)
        | (refine wpList_load_row rfl 26 (.tmp 18) rfl w18.heap.size rfl 26 (d.released m.swap).cells (0, 0) _ ?_ Try.underlying26 rfl i26s ?_; exact D24))
      have y24 := y18.trans (x24.mono y18.size)
      have S24 := S8.later y24
      have R1l := R1h.later x24
      have R2l := R2h.later x24
      refine (recordIs_any (d.released m.swap) s _ (released_ok okd hm1 hm2) hdn S24.bl).mono ?_
      rintro r w25 ⟨rfl, hb25⟩
      have y25 := y24.trans (hb25.mono y24.size)
      have S25 := S8.later y25
      have R1m := R1l.later hb25
      have R2m := R2l.later hb25
      clear D24 B24 x24 cB23 cD23 fD23 B23 D23 R1k R2k y23 x23 y24 S24 R1l R2l hb25
      go_wp2_with fail
      refine (callCircuit_any K1 _ d.cic d.dpc d.opc false _ R1m).mono ?_
      rintro r w26 ⟨rfl, n1, rfl⟩
      go_wp2_with fail
      refine (callCircuit_any K2 _ d.cic d.dpc d.opc false _ (R2m.drewN n1)).mono ?_
      rintro r w27 ⟨rfl, n2, rfl⟩
      have cF := S25.bc.cell
      have g3' : ∀ h : 3 < d.cells.size, d.cells[3]'h = .int .u16 d.cic := fun _ => rfl
      go_wp2_with fail
      go_ret
      exact ⟨rfl, below_drewN S25.bb (n1 + n2)⟩
  · go_quiet (fail)
    have C6 := C5.drewN nq
    have M6 := M5.drewN nq
    have l6 : SRow (w5.drewN nq) d.la d.ln s := l5d
    have b06 := below_drewN b05 nq
    clear C5 M5 l5d b05 cC5
    generalize w5.drewN nq = w6 at C6 M6 l6 b06 ⊢
    -- back := m
    have ltM := M6.lt
    obtain ⟨w7, hst, K7, b67⟩ := put28 w6 m
    have C7 : Blk w7 w.heap.size d.cells 26 := C6.later b67
    have M7 : Blk w7 (w.heap.size + 1) m.cells 28 := M6.later b67
    have cM7 := M7.cell
    have fK7 := K7.frozen
    have cK7 := K7.cell
    have hms := m.cells_size
    have j2' : ∀ h : 2 < m.cells.size, m.cells[2]'h = .int .u32 m.opc := fun _ => rfl
    have j3' : ∀ h : 3 < m.cells.size, m.cells[3]'h = .int .u32 m.dpc := fun _ => rfl
    have ne1 : ¬ w6.heap.size = w.heap.size + 1 := by omega
    have ne2 : ¬ w6.heap.size = w.heap.size := by omega
    clear C6
    unfold z28 at hst
    go_wp2_with (first
      | (refine wpList_load_row rfl 28 (.tmp 3) rfl (w.heap.size + 1) rfl 28 m.cells (0, 0) _ (by exact M6) Try.underlying28 rfl i28 ?_))
    clear hms j2' j3' hst cM7 fK7 cK7 ne1 ne2
    have K8 : Blk ((w7.setCell ⟨w6.heap.size, 2, none⟩ (.int .u32 m.dpc)).setCell ⟨w6.heap.size, 3, none⟩ (.int .u32 m.opc)) w6.heap.size m.swap.cells 28 := by
      have := (K7.setCell 2 (.int .u32 m.dpc)).setCell 3 (.int .u32 m.opc)
      rwa [swap_cells] at this
    have b68 : Below w6.heap.size w6 ((w7.setCell ⟨w6.heap.size, 2, none⟩ (.int .u32 m.dpc)).setCell ⟨w6.heap.size, 3, none⟩ (.int .u32 m.opc)) := (b67.setCell (p := ⟨w6.heap.size, 2, none⟩) (Nat.le_refl _) _).setCell (p := ⟨w6.heap.size, 3, none⟩) (Nat.le_refl _) _
    have S8 : St w w6.heap.size d m s ((w7.setCell ⟨w6.heap.size, 2, none⟩ (.int .u32 m.dpc)).setCell ⟨w6.heap.size, 3, none⟩ (.int .u32 m.opc)) :=
      ⟨(C7.setCell_far _ _ (by show w.heap.size ≠ w6.heap.size; omega)).setCell_far _ _ (by show w.heap.size ≠ w6.heap.size; omega), (M7.setCell_far _ _ (by show w.heap.size + 1 ≠ w6.heap.size; omega)).setCell_far _ _ (by show w.heap.size + 1 ≠ w6.heap.size; omega), K8, l6.later b68, b06.trans (b68.mono b06.size)⟩
    clear K8 b68 b67 C7 M7 K7 l6 b06 M6 ltM
    generalize (w7.setCell ⟨w6.heap.size, 2, none⟩ (.int .u32 m.dpc)).setCell ⟨w6.heap.size, 3, none⟩ (.int .u32 m.opc) = w8 at S8 ⊢
    generalize w6.heap.size = BK at S8 ⊢
    have c8 := S8.bc.cell
    have f0 : d.cells[0]? = some (.int .i64 d.st) := rfl
    have f4 : d.cells[4]? = some (.string d.calling) := rfl
    have f5 : d.cells[5]? = some (.string d.called) := rfl
    have f6 : d.cells[6]? = some (.int .i64 d.ans) := rfl
    have f7 : d.cells[7]? = some (.int .i64 d.rel) := rfl
    have f8 : d.cells[8]? = some (.string d.party) := rfl
    have f9 : d.cells[9]? = some (.int .u8 d.cause) := rfl
    have f10 : d.cells[10]? = some (.bool d.hc) := rfl
    have f11 : d.cells[11]? = some (.bool d.cl) := rfl
    have f12 : d.cells[12]? = some (.int .i64 d.msgs) := rfl
    have f13 : d.cells[13]? = some (.slice d.la d.ln d.lc) := rfl
    go_region_held3 (fun W => (∀ j, W.cell? ⟨w.heap.size, j, none⟩ = d.cells[j]?) ∧ St w BK d m s W)
      (first | with_reducible exact keep_st (by assumption) (by assumption) | exact ⟨c8, S8.drew⟩)
      (first
        | (go_at_call 10; refine (toRecord_any d _ okd).mono ?_; rintro r w9a ⟨rfl, hb9a⟩)
        | (go_at_call 9; refine (newCall_any d _ _ _ _ _).mono ?_; rintro r w9 ⟨K1, rfl, hK1, B1, hb9⟩))
    have S9 : St w BK d m s w9 := (by with_reducible assumption : (∀ j, w9.cell? ⟨w.heap.size, j, none⟩ = d.cells[j]?) ∧ St w BK d m s w9).2
    have c9 := S9.bc.cell
    have x9 : Below w8.heap.size w8 w9 := (undrew hb9a).trans (hb9.mono (undrew hb9a).size)
    have k1lo : w8.heap.size ≤ K1 := Nat.le_trans (undrew hb9a).size hK1
    have k1hi := B1.lt
    clear c8 hb9a hb9 hK1
    go_wp2_with fail
    go_region_held3 (fun W => (∀ j, W.cell? ⟨w.heap.size, j, none⟩ = d.cells[j]?) ∧ (St w BK d m s W ∧ Blk W K1 (callC d d.cic d.opc d.dpc false) 62))
      (first | with_reducible exact keep_st2 (by assumption) (by assumption) | exact ⟨c9, S9.drew, B1.drew⟩)
      (first
        | (go_at_call 10; refine (toRecord_any d _ okd).mono ?_; rintro r w10a ⟨rfl, hb10a⟩)
        | (go_at_call 9; refine (newCall_any d _ _ _ _ _).mono ?_; rintro r w10 ⟨K2, rfl, hK2, B2, hb10⟩))
    have x10 : Below w9.heap.size w9 w10 := (undrew hb10a).trans (hb10.mono (undrew hb10a).size)
    have k12 : K1 < K2 := Nat.lt_of_lt_of_le k1hi (Nat.le_trans (undrew hb10a).size hK2)
    have k2hi := B2.lt
    have B1' := B1.later x10
    have y10 := x9.trans (x10.mono x9.size)
    clear B1 c9 hb10a hb10 hK2 S9 x9 x10 k1hi
    have S10 := S8.later y10
    have cM10 := S10.bm.cell
    go_wp2_with fail
    refine (newMessage_any m _ hm1 hm2).mono ?_
    rintro r w11 ⟨M1, rfl, hM1, BM1, hb11⟩
    have y11 := y10.trans (hb11.mono y10.size)
    have S11 := S8.later y11
    have cK11 := S11.bk.cell
    have B1a := B1'.later hb11
    have B2a := B2.later hb11
    have m1hi := BM1.lt
    have p0 : m.swap.cells[0]? = some (.int .i64 m.swap.tm) := rfl
    have p1 : m.swap.cells[1]? = some (.string m.swap.link) := rfl
    have p2 : m.swap.cells[2]? = some (.int .u32 m.swap.opc) := rfl
    have p3 : m.swap.cells[3]? = some (.int .u32 m.swap.dpc) := rfl
    have p4 : m.swap.cells[4]? = some (.int .u16 m.swap.cic) := rfl
    have p5 : m.swap.cells[5]? = some (.int .u8 m.swap.typ) := rfl
    have p6 : m.swap.cells[6]? = some (.string m.swap.calling) := rfl
    have p7 : m.swap.cells[7]? = some (.string m.swap.called) := rfl
    have p8 : m.swap.cells[8]? = some (.int .u8 m.swap.cause) := rfl
    have p9 : m.swap.cells[9]? = some (.bool m.swap.hc) := rfl
    have k2m1 : K2 < M1 := Nat.lt_of_lt_of_le k2hi hM1
    clear B1' B2 cM10 S10 hM1 k2hi y10 hb11
    go_wp2_with fail
    refine (newMessage_any m.swap _ hm1 hm2).mono ?_
    rintro r w12 ⟨M2, rfl, hM2, BM2, hb12⟩
    have y12 := y11.trans (hb12.mono y11.size)
    have B1b := B1a.later hb12
    have B2b := B2a.later hb12
    have BM1b := BM1.later hb12
    have m12 : M1 < M2 := Nat.lt_of_lt_of_le m1hi hM2
    clear B1a B2a BM1 hb12 hM2 m1hi S11 cK11 y11 p0 p1 p2 p3 p4 p5 p6 p7 p8 p9
    go_wp2_with fail
    refine (zzrelease_any K1 M1 d m d.cic d.opc d.dpc false _ B1b BM1b (by omega)).mono ?_
    rintro r w13 ⟨rfl, R1k, o13⟩
    have y13 := y12.trans (o13.below k1lo)
    have B2c := o13.blk B2b (by omega)
    have BM2c := o13.blk BM2 (by omega)
    clear B1b B2b BM1b BM2 o13 y12
    go_wp2_with fail
    refine (zzrelease_any K2 M2 d m.swap d.cic d.opc d.dpc false _ B2c BM2c (by omega)).mono ?_
    rintro r w14 ⟨rfl, R2k, o14⟩
    have y14 := y13.trans (o14.below (by omega))
    have R1d := o14.blk R1k (by omega)
    clear B2c BM2c o14 y13 R1k
    go_wp2_with fail
    refine (callRecord_any K1 (d.released m) d.cic d.opc d.dpc false _ R1d).mono ?_
    rintro r w15 ⟨rfl, hb15⟩
    have y15 := y14.trans (hb15.mono y14.size)
    have R1e := R1d.later hb15
    have R2e := R2k.later hb15
    have k1e := R1e.lt
    have k2e := R2e.lt
    obtain ⟨w16, hst, A16, x16⟩ := put38 w15 (d.released m)
    have hrs := RecD.rc_size (d.released m)
    have y16 := y15.trans (x16.mono y15.size)
    have R1f := R1e.later x16
    have R2f := R2e.later x16
    have a16 := A16.lt
    clear R1d R2k hb15 y14 y15 R1e R2e x16
    unfold z38 at hst
    go_wp2_with fail
    refine (callRecord_any K2 (d.released m.swap) d.cic d.opc d.dpc false _ R2f).mono ?_
    rintro r w17 ⟨rfl, hb17⟩
    have y17 := y16.trans (hb17.mono y16.size)
    have A17 := A16.later hb17
    have R1g := R1f.later hb17
    have R2g := R2f.later hb17
    have a17 := A17.lt
    obtain ⟨RA, hRA⟩ : ∃ RA, w15.heap.size = RA := ⟨_, rfl⟩
    rw [hRA] at A17 a17 k1e k2e ⊢
    clear A16 R1f R2f hst hrs a16 hRA
    obtain ⟨w18, hst, B18, x18⟩ := put38 w17 (d.released m.swap)
    have hrs := RecD.rc_size (d.released m.swap)
    have y18 := y17.trans (x18.mono y17.size)
    have A18 := A17.later x18
    have R1h := R1g.later x18
    have R2h := R2g.later x18
    have b18 := B18.lt
    clear A17 R1g R2g hb17 y16 y17 x18
    unfold z38 at hst
    have S18 := S8.later y18
    have cA := A18.cell
    have cB := B18.cell
    have cC := S18.bc.cell
    have cM := S18.bm.cell
    have i26d : (Try.prog.info? 26).map (·.size) = some d.cells.size := Try.size26
    have wb := S18.bm.lt
    obtain ⟨w19, hst2, D19, x19⟩ := put26 w18 d
    have y19 := y18.trans (x19.mono y18.size)
    have A19 := A18.later x19
    have B19 := B18.later x19
    have R1i := R1h.later x19
    have R2i := R2h.later x19
    have S19 := S8.later y19
    unfold z26 at hst2
    have hds := RecD.cells_size d
    have cD19 := D19.cell
    have fD19 := D19.frozen
    have cM19 := S19.bm.cell
    have cA19 := A19.cell
    have hra := A18.lt
    have hk1 := R1h.lt
    have hk2 := R2h.lt
    have s8lt : w8.heap.size ≤ w18.heap.size := y18.size
    have g1' : ∀ h : 1 < d.cells.size, d.cells[1]'h = .int .u32 d.opc := fun _ => rfl
    have g2' : ∀ h : 2 < d.cells.size, d.cells[2]'h = .int .u32 d.dpc := fun _ => rfl
    have ne1 : ¬ w18.heap.size = w.heap.size + 1 := by omega
    have ne2 : ¬ w18.heap.size = RA := by omega
    have ne3 : ¬ w18.heap.size = w.heap.size := by omega
    rcases parties d m ond.out with ⟨e1, e2, e3⟩ | ⟨e1, e2, e3⟩ | ⟨e1, e2, e3⟩
    · have r14 : (d.released m).rc[14]? = some (.string ⟨#[99, 97, 108, 108, 105, 110, 103]⟩) := by rw [← e1]; rfl
      have q14 : (d.released m.swap).rc[14]? = some (.string ⟨#[99, 97, 108, 108, 105, 110, 103]⟩) := by rw [← e2]; rfl
      have q14' : ∀ h : 14 < (d.released m.swap).rc.size, (d.released m.swap).rc[14]'h = .string ⟨#[99, 97, 108, 108, 105, 110, 103]⟩ := fun _ => by rw [← e2]; rfl
      have D22 : Blk ((((w19.setCell ⟨w18.heap.size, 7, none⟩ (.int .i64 m.tm)).setCell ⟨w18.heap.size, 9, none⟩ (.int .u8 m.cause)).setCell ⟨w18.heap.size, 10, none⟩ (.bool m.hc)).setCell ⟨w18.heap.size, 8, none⟩ (.string ⟨#[99, 97, 108, 108, 105, 110, 103]⟩)) w18.heap.size (d.released m).cells 26 := by
        have := (((D19.setCell 7 (.int .i64 m.tm)).setCell 9 (.int .u8 m.cause)).setCell 10 (.bool m.hc)).setCell 8 (.string ⟨#[99, 97, 108, 108, 105, 110, 103]⟩)
        rwa [want_cells d m _ e1] at this
      have x22 : Below w18.heap.size w18 ((((w19.setCell ⟨w18.heap.size, 7, none⟩ (.int .i64 m.tm)).setCell ⟨w18.heap.size, 9, none⟩ (.int .u8 m.cause)).setCell ⟨w18.heap.size, 10, none⟩ (.bool m.hc)).setCell ⟨w18.heap.size, 8, none⟩ (.string ⟨#[99, 97, 108, 108, 105, 110, 103]⟩)) :=
        (((x19.setCell (p := ⟨w18.heap.size, 7, none⟩) (Nat.le_refl _) _).setCell (p := ⟨w18.heap.size, 9, none⟩) (Nat.le_refl _) _).setCell (p := ⟨w18.heap.size, 10, none⟩) (Nat.le_refl _) _).setCell (p := ⟨w18.heap.size, 8, none⟩) (Nat.le_refl _) _
      have A22 := A18.later x22
      have i38 : (Try.prog.info? 38).map (·.size) = some (d.released m).rc.size := Try.size38
      have i26r : (Try.prog.info? 26).map (·.size) = some (d.released m).cells.size := Try.size26
      go_wp2_with (first
        | (refine wpList_load_row rfl 26 (.tmp 2) rfl w.heap.size rfl 26 d.cells (0, 0) _ ?_ Try.underlying26 rfl i26d ?_; exact S18.bc)
        | (refine wpList_load_row rfl 38 (.tmp 14) rfl RA rfl 38 (d.released m).rc (0, 0) _ ?_ Try.underlying38 rfl i38 ?_; exact A22)
        | (refine wpList_load_row rfl 26 (.tmp 18) rfl w18.heap.size rfl 26 (d.released m).cells (0, 0) _ ?_ Try.underlying26 rfl i26r ?_; exact D22))
      have y22 := y18.trans (x22.mono y18.size)
      have S22 := S8.later y22
      have B22 := B18.later x22
      have R1j := R1h.later x22
      have R2j := R2h.later x22
      refine (recordIs_any (d.released m) s _ (released_ok okd hm1 hm2) hdn S22.bl).mono ?_
      rintro r w23 ⟨rfl, hb23⟩
      have B23 := B22.later hb23
      have D23 := D22.later hb23
      have R1k := R1j.later hb23
      have R2k := R2j.later hb23
      have y23 := y22.trans (hb23.mono y22.size)
      have x23 := x22.trans (hb23.mono x22.size)
      clear A22 D22 x22 i38 B22 R1j R2j hb23 y22 S22 S19 cM19 cA19 cD19 fD19 A19 B19 R1i R2i x19 y19 hst2 D19 hst hrs
      have hb17 := B18.lt
      have D24 : Blk (w23.setCell ⟨w18.heap.size, 8, none⟩ (.string ⟨#[99, 97, 108, 108, 105, 110, 103]⟩)) w18.heap.size (d.released m.swap).cells 26 := by
        have := D23.setCell 8 (.string ⟨#[99, 97, 108, 108, 105, 110, 103]⟩)
        rwa [want_cells2 d m _ e2] at this
      have B24 : Blk (w23.setCell ⟨w18.heap.size, 8, none⟩ (.string ⟨#[99, 97, 108, 108, 105, 110, 103]⟩)) w17.heap.size (d.released m.swap).rc 38 := B23.setCell_far _ _ (by show w17.heap.size ≠ w18.heap.size; omega)
      have x24 : Below w18.heap.size w18 (w23.setCell ⟨w18.heap.size, 8, none⟩ (.string ⟨#[99, 97, 108, 108, 105, 110, 103]⟩)) := x23.setCell (p := ⟨w18.heap.size, 8, none⟩) (Nat.le_refl _) _
      have i38 : (Try.prog.info? 38).map (·.size) = some (d.released m.swap).rc.size := Try.size38
      have i26s : (Try.prog.info? 26).map (·.size) = some (d.released m.swap).cells.size := Try.size26
      have cB23 := B23.cell
      have cD23 := D23.cell
      have fD23 := D23.frozen
      have s8c : (d.released m).cells[8]? = some (.string (d.released m).party) := rfl
      go_wp2_with (first
        | (refine wpList_load_row rfl 38 (.tmp 15) rfl w17.heap.size rfl 38 (d.released m.swap).rc (0, 0) _ ?_ Try.underlying38 rfl i38 ?_; exact B24)
        | (refine wpList_load_row rfl 26 (.tmp 18) rfl w18.heap.size rfl 26 (d.released m.swap).cells (0, 0) _ ?_ Try.underlying26 rfl i26s ?_; exact D24))
      have y24 := y18.trans (x24.mono y18.size)
      have S24 := S8.later y24
      have R1l := R1h.later x24
      have R2l := R2h.later x24
      refine (recordIs_any (d.released m.swap) s _ (released_ok okd hm1 hm2) hdn S24.bl).mono ?_
      rintro r w25 ⟨rfl, hb25⟩
      have y25 := y24.trans (hb25.mono y24.size)
      have S25 := S8.later y25
      have R1m := R1l.later hb25
      have R2m := R2l.later hb25
      clear D24 B24 x24 cB23 cD23 fD23 B23 D23 R1k R2k y23 x23 y24 S24 R1l R2l hb25
      go_wp2_with fail
      refine (callCircuit_any K1 _ d.cic d.opc d.dpc false _ R1m).mono ?_
      rintro r w26 ⟨rfl, n1, rfl⟩
      go_wp2_with fail
      refine (callCircuit_any K2 _ d.cic d.opc d.dpc false _ (R2m.drewN n1)).mono ?_
      rintro r w27 ⟨rfl, n2, rfl⟩
      have cF := S25.bc.cell
      have g3' : ∀ h : 3 < d.cells.size, d.cells[3]'h = .int .u16 d.cic := fun _ => rfl
      go_wp2_with fail
      go_ret
      exact ⟨rfl, below_drewN S25.bb (n1 + n2)⟩
    · have r14 : (d.released m).rc[14]? = some (.string ⟨#[99, 97, 108, 108, 105, 110, 103]⟩) := by rw [← e1]; rfl
      have q14 : (d.released m.swap).rc[14]? = some (.string ⟨#[99, 97, 108, 108, 101, 100]⟩) := by rw [← e2]; rfl
      have q14' : ∀ h : 14 < (d.released m.swap).rc.size, (d.released m.swap).rc[14]'h = .string ⟨#[99, 97, 108, 108, 101, 100]⟩ := fun _ => by rw [← e2]; rfl
      have D22 : Blk ((((w19.setCell ⟨w18.heap.size, 7, none⟩ (.int .i64 m.tm)).setCell ⟨w18.heap.size, 9, none⟩ (.int .u8 m.cause)).setCell ⟨w18.heap.size, 10, none⟩ (.bool m.hc)).setCell ⟨w18.heap.size, 8, none⟩ (.string ⟨#[99, 97, 108, 108, 105, 110, 103]⟩)) w18.heap.size (d.released m).cells 26 := by
        have := (((D19.setCell 7 (.int .i64 m.tm)).setCell 9 (.int .u8 m.cause)).setCell 10 (.bool m.hc)).setCell 8 (.string ⟨#[99, 97, 108, 108, 105, 110, 103]⟩)
        rwa [want_cells d m _ e1] at this
      have x22 : Below w18.heap.size w18 ((((w19.setCell ⟨w18.heap.size, 7, none⟩ (.int .i64 m.tm)).setCell ⟨w18.heap.size, 9, none⟩ (.int .u8 m.cause)).setCell ⟨w18.heap.size, 10, none⟩ (.bool m.hc)).setCell ⟨w18.heap.size, 8, none⟩ (.string ⟨#[99, 97, 108, 108, 105, 110, 103]⟩)) :=
        (((x19.setCell (p := ⟨w18.heap.size, 7, none⟩) (Nat.le_refl _) _).setCell (p := ⟨w18.heap.size, 9, none⟩) (Nat.le_refl _) _).setCell (p := ⟨w18.heap.size, 10, none⟩) (Nat.le_refl _) _).setCell (p := ⟨w18.heap.size, 8, none⟩) (Nat.le_refl _) _
      have A22 := A18.later x22
      have i38 : (Try.prog.info? 38).map (·.size) = some (d.released m).rc.size := Try.size38
      have i26r : (Try.prog.info? 26).map (·.size) = some (d.released m).cells.size := Try.size26
      go_wp2_with (first
        | (refine wpList_load_row rfl 26 (.tmp 2) rfl w.heap.size rfl 26 d.cells (0, 0) _ ?_ Try.underlying26 rfl i26d ?_; exact S18.bc)
        | (refine wpList_load_row rfl 38 (.tmp 14) rfl RA rfl 38 (d.released m).rc (0, 0) _ ?_ Try.underlying38 rfl i38 ?_; exact A22)
        | (refine wpList_load_row rfl 26 (.tmp 18) rfl w18.heap.size rfl 26 (d.released m).cells (0, 0) _ ?_ Try.underlying26 rfl i26r ?_; exact D22))
      have y22 := y18.trans (x22.mono y18.size)
      have S22 := S8.later y22
      have B22 := B18.later x22
      have R1j := R1h.later x22
      have R2j := R2h.later x22
      refine (recordIs_any (d.released m) s _ (released_ok okd hm1 hm2) hdn S22.bl).mono ?_
      rintro r w23 ⟨rfl, hb23⟩
      have B23 := B22.later hb23
      have D23 := D22.later hb23
      have R1k := R1j.later hb23
      have R2k := R2j.later hb23
      have y23 := y22.trans (hb23.mono y22.size)
      have x23 := x22.trans (hb23.mono x22.size)
      clear A22 D22 x22 i38 B22 R1j R2j hb23 y22 S22 S19 cM19 cA19 cD19 fD19 A19 B19 R1i R2i x19 y19 hst2 D19 hst hrs
      have hb17 := B18.lt
      have D24 : Blk (w23.setCell ⟨w18.heap.size, 8, none⟩ (.string ⟨#[99, 97, 108, 108, 101, 100]⟩)) w18.heap.size (d.released m.swap).cells 26 := by
        have := D23.setCell 8 (.string ⟨#[99, 97, 108, 108, 101, 100]⟩)
        rwa [want_cells2 d m _ e2] at this
      have B24 : Blk (w23.setCell ⟨w18.heap.size, 8, none⟩ (.string ⟨#[99, 97, 108, 108, 101, 100]⟩)) w17.heap.size (d.released m.swap).rc 38 := B23.setCell_far _ _ (by show w17.heap.size ≠ w18.heap.size; omega)
      have x24 : Below w18.heap.size w18 (w23.setCell ⟨w18.heap.size, 8, none⟩ (.string ⟨#[99, 97, 108, 108, 101, 100]⟩)) := x23.setCell (p := ⟨w18.heap.size, 8, none⟩) (Nat.le_refl _) _
      have i38 : (Try.prog.info? 38).map (·.size) = some (d.released m.swap).rc.size := Try.size38
      have i26s : (Try.prog.info? 26).map (·.size) = some (d.released m.swap).cells.size := Try.size26
      have cB23 := B23.cell
      have cD23 := D23.cell
      have fD23 := D23.frozen
      have s8c : (d.released m).cells[8]? = some (.string (d.released m).party) := rfl
      go_wp2_with (first
        | (refine wpList_load_row rfl 38 (.tmp 15) rfl w17.heap.size rfl 38 (d.released m.swap).rc (0, 0) _ ?_ Try.underlying38 rfl i38 ?_; exact B24)
        | (refine wpList_load_row rfl 26 (.tmp 18) rfl w18.heap.size rfl 26 (d.released m.swap).cells (0, 0) _ ?_ Try.underlying26 rfl i26s ?_; exact D24))
      have y24 := y18.trans (x24.mono y18.size)
      have S24 := S8.later y24
      have R1l := R1h.later x24
      have R2l := R2h.later x24
      refine (recordIs_any (d.released m.swap) s _ (released_ok okd hm1 hm2) hdn S24.bl).mono ?_
      rintro r w25 ⟨rfl, hb25⟩
      have y25 := y24.trans (hb25.mono y24.size)
      have S25 := S8.later y25
      have R1m := R1l.later hb25
      have R2m := R2l.later hb25
      clear D24 B24 x24 cB23 cD23 fD23 B23 D23 R1k R2k y23 x23 y24 S24 R1l R2l hb25
      go_wp2_with fail
      refine (callCircuit_any K1 _ d.cic d.opc d.dpc false _ R1m).mono ?_
      rintro r w26 ⟨rfl, n1, rfl⟩
      go_wp2_with fail
      refine (callCircuit_any K2 _ d.cic d.opc d.dpc false _ (R2m.drewN n1)).mono ?_
      rintro r w27 ⟨rfl, n2, rfl⟩
      have cF := S25.bc.cell
      have g3' : ∀ h : 3 < d.cells.size, d.cells[3]'h = .int .u16 d.cic := fun _ => rfl
      go_wp2_with fail
      go_ret
      exact ⟨rfl, below_drewN S25.bb (n1 + n2)⟩
    · have r14 : (d.released m).rc[14]? = some (.string ⟨#[99, 97, 108, 108, 101, 100]⟩) := by rw [← e1]; rfl
      have q14 : (d.released m.swap).rc[14]? = some (.string ⟨#[99, 97, 108, 108, 105, 110, 103]⟩) := by rw [← e2]; rfl
      have q14' : ∀ h : 14 < (d.released m.swap).rc.size, (d.released m.swap).rc[14]'h = .string ⟨#[99, 97, 108, 108, 105, 110, 103]⟩ := fun _ => by rw [← e2]; rfl
      have D22 : Blk ((((w19.setCell ⟨w18.heap.size, 7, none⟩ (.int .i64 m.tm)).setCell ⟨w18.heap.size, 9, none⟩ (.int .u8 m.cause)).setCell ⟨w18.heap.size, 10, none⟩ (.bool m.hc)).setCell ⟨w18.heap.size, 8, none⟩ (.string ⟨#[99, 97, 108, 108, 101, 100]⟩)) w18.heap.size (d.released m).cells 26 := by
        have := (((D19.setCell 7 (.int .i64 m.tm)).setCell 9 (.int .u8 m.cause)).setCell 10 (.bool m.hc)).setCell 8 (.string ⟨#[99, 97, 108, 108, 101, 100]⟩)
        rwa [want_cells d m _ e1] at this
      have x22 : Below w18.heap.size w18 ((((w19.setCell ⟨w18.heap.size, 7, none⟩ (.int .i64 m.tm)).setCell ⟨w18.heap.size, 9, none⟩ (.int .u8 m.cause)).setCell ⟨w18.heap.size, 10, none⟩ (.bool m.hc)).setCell ⟨w18.heap.size, 8, none⟩ (.string ⟨#[99, 97, 108, 108, 101, 100]⟩)) :=
        (((x19.setCell (p := ⟨w18.heap.size, 7, none⟩) (Nat.le_refl _) _).setCell (p := ⟨w18.heap.size, 9, none⟩) (Nat.le_refl _) _).setCell (p := ⟨w18.heap.size, 10, none⟩) (Nat.le_refl _) _).setCell (p := ⟨w18.heap.size, 8, none⟩) (Nat.le_refl _) _
      have A22 := A18.later x22
      have i38 : (Try.prog.info? 38).map (·.size) = some (d.released m).rc.size := Try.size38
      have i26r : (Try.prog.info? 26).map (·.size) = some (d.released m).cells.size := Try.size26
      go_wp2_with (first
        | (refine wpList_load_row rfl 26 (.tmp 2) rfl w.heap.size rfl 26 d.cells (0, 0) _ ?_ Try.underlying26 rfl i26d ?_; exact S18.bc)
        | (refine wpList_load_row rfl 38 (.tmp 14) rfl RA rfl 38 (d.released m).rc (0, 0) _ ?_ Try.underlying38 rfl i38 ?_; exact A22)
        | (refine wpList_load_row rfl 26 (.tmp 18) rfl w18.heap.size rfl 26 (d.released m).cells (0, 0) _ ?_ Try.underlying26 rfl i26r ?_; exact D22))
      have y22 := y18.trans (x22.mono y18.size)
      have S22 := S8.later y22
      have B22 := B18.later x22
      have R1j := R1h.later x22
      have R2j := R2h.later x22
      refine (recordIs_any (d.released m) s _ (released_ok okd hm1 hm2) hdn S22.bl).mono ?_
      rintro r w23 ⟨rfl, hb23⟩
      have B23 := B22.later hb23
      have D23 := D22.later hb23
      have R1k := R1j.later hb23
      have R2k := R2j.later hb23
      have y23 := y22.trans (hb23.mono y22.size)
      have x23 := x22.trans (hb23.mono x22.size)
      clear A22 D22 x22 i38 B22 R1j R2j hb23 y22 S22 S19 cM19 cA19 cD19 fD19 A19 B19 R1i R2i x19 y19 hst2 D19 hst hrs
      have hb17 := B18.lt
      have D24 : Blk (w23.setCell ⟨w18.heap.size, 8, none⟩ (.string ⟨#[99, 97, 108, 108, 105, 110, 103]⟩)) w18.heap.size (d.released m.swap).cells 26 := by
        have := D23.setCell 8 (.string ⟨#[99, 97, 108, 108, 105, 110, 103]⟩)
        rwa [want_cells2 d m _ e2] at this
      have B24 : Blk (w23.setCell ⟨w18.heap.size, 8, none⟩ (.string ⟨#[99, 97, 108, 108, 105, 110, 103]⟩)) w17.heap.size (d.released m.swap).rc 38 := B23.setCell_far _ _ (by show w17.heap.size ≠ w18.heap.size; omega)
      have x24 : Below w18.heap.size w18 (w23.setCell ⟨w18.heap.size, 8, none⟩ (.string ⟨#[99, 97, 108, 108, 105, 110, 103]⟩)) := x23.setCell (p := ⟨w18.heap.size, 8, none⟩) (Nat.le_refl _) _
      have i38 : (Try.prog.info? 38).map (·.size) = some (d.released m.swap).rc.size := Try.size38
      have i26s : (Try.prog.info? 26).map (·.size) = some (d.released m.swap).cells.size := Try.size26
      have cB23 := B23.cell
      have cD23 := D23.cell
      have fD23 := D23.frozen
      have s8c : (d.released m).cells[8]? = some (.string (d.released m).party) := rfl
      go_wp2_with (first
        | (refine wpList_load_row rfl 38 (.tmp 15) rfl w17.heap.size rfl 38 (d.released m.swap).rc (0, 0) _ ?_ Try.underlying38 rfl i38 ?_; exact B24)
        | (refine wpList_load_row rfl 26 (.tmp 18) rfl w18.heap.size rfl 26 (d.released m.swap).cells (0, 0) _ ?_ Try.underlying26 rfl i26s ?_; exact D24))
      have y24 := y18.trans (x24.mono y18.size)
      have S24 := S8.later y24
      have R1l := R1h.later x24
      have R2l := R2h.later x24
      refine (recordIs_any (d.released m.swap) s _ (released_ok okd hm1 hm2) hdn S24.bl).mono ?_
      rintro r w25 ⟨rfl, hb25⟩
      have y25 := y24.trans (hb25.mono y24.size)
      have S25 := S8.later y25
      have R1m := R1l.later hb25
      have R2m := R2l.later hb25
      clear D24 B24 x24 cB23 cD23 fD23 B23 D23 R1k R2k y23 x23 y24 S24 R1l R2l hb25
      go_wp2_with fail
      refine (callCircuit_any K1 _ d.cic d.opc d.dpc false _ R1m).mono ?_
      rintro r w26 ⟨rfl, n1, rfl⟩
      go_wp2_with fail
      refine (callCircuit_any K2 _ d.cic d.opc d.dpc false _ (R2m.drewN n1)).mono ?_
      rintro r w27 ⟨rfl, n2, rfl⟩
      have cF := S25.bc.cell
      have g3' : ∀ h : 3 < d.cells.size, d.cells[3]'h = .int .u16 d.cic := fun _ => rfl
      go_wp2_with fail
      go_ret
      exact ⟨rfl, below_drewN S25.bb (n1 + n2)⟩

end Go.Proofs.Qxb6603484a
