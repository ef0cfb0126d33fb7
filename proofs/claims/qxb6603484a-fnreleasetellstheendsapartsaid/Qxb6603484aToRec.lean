/-
  THE WALK of toRecord.
-/
import Derived.Test.Qxb6603484aRecD
import Derived.Deep.RegionHeld3
namespace Go.Proofs.Qxb6603484a
open Go.RowKit
set_option linter.unusedVariables false
attribute [local go_sem ↓] exec_build38

/-- What stands while toRecord gathers its parts: the boxed Rec, the room for the answer. -/
theorem start_rec (w : World) (c : RecD) (Z : Array Value) (hZ : Z.size = 20) :
    (∀ j, ((w.alloc (.cells c.cells 26)).alloc (.cells Z 38)).drew.cell? ⟨w.heap.size, j, none⟩ = c.cells[j]?) ∧ ((w.alloc (.cells c.cells 26)).alloc (.cells Z 38)).drew.there (w.heap.size + 1) 0 20 ∧
      (∃ Y : Array Value, Y.size = 20 ∧ Blk ((w.alloc (.cells c.cells 26)).alloc (.cells Z 38)).drew (w.heap.size + 1) Y 38) ∧ Below w.heap.size w ((w.alloc (.cells c.cells 26)).alloc (.cells Z 38)).drew := by
  have h1 : Blk ((w.alloc (.cells c.cells 26)).alloc (.cells Z 38)) w.heap.size c.cells 26 := (Blk.new w c.cells 26).alloc _
  have h2 : Blk ((w.alloc (.cells c.cells 26)).alloc (.cells Z 38)) (w.heap.size + 1) Z 38 := by
    have := Blk.new (w.alloc (.cells c.cells 26)) Z 38
    simpa using this
  exact ⟨fun j => h1.drew.cell j, h2.drew.there 20 (by omega), ⟨Z, hZ, h2.drew⟩, (below2 w _ _).drew⟩

theorem keep_rec {w W w1 : World} {c : RecD} (h : (∀ j, W.cell? ⟨w.heap.size, j, none⟩ = c.cells[j]?) ∧ W.there (w.heap.size + 1) 0 20 ∧ (∃ Z : Array Value, Z.size = 20 ∧ Blk W (w.heap.size + 1) Z 38) ∧ Below w.heap.size w W) (hb : Below W.heap.size W w1) :
    (∀ j, w1.cell? ⟨w.heap.size, j, none⟩ = c.cells[j]?) ∧ w1.there (w.heap.size + 1) 0 20 ∧ (∃ Z : Array Value, Z.size = 20 ∧ Blk w1 (w.heap.size + 1) Z 38) ∧ Below w.heap.size w w1 := by
  obtain ⟨h1, h2, ⟨Z, hZ, h3⟩, h4⟩ := h
  have hlt := h3.lt
  have h5 := h3.later hb
  exact ⟨fun j => by rw [hb.cell (p := ⟨w.heap.size, j, none⟩) (by show w.heap.size < _; omega)]; exact h1 j, h5.there 20 (by omega), ⟨Z, hZ, h5⟩, h4.trans (hb.mono h4.size)⟩

theorem keep_rec_store {w W : World} {c : RecD} (h : (∀ j, W.cell? ⟨w.heap.size, j, none⟩ = c.cells[j]?) ∧ W.there (w.heap.size + 1) 0 20 ∧ (∃ Z : Array Value, Z.size = 20 ∧ Blk W (w.heap.size + 1) Z 38) ∧ Below w.heap.size w W) (D : Array Value) (hD : D.size = 20) :
    (∀ j, (W.setCells (w.heap.size + 1) 0 D.toList).cell? ⟨w.heap.size, j, none⟩ = c.cells[j]?) ∧ (W.setCells (w.heap.size + 1) 0 D.toList).there (w.heap.size + 1) 0 20 ∧ (∃ Z : Array Value, Z.size = 20 ∧ Blk (W.setCells (w.heap.size + 1) 0 D.toList) (w.heap.size + 1) Z 38) ∧ Below w.heap.size w (W.setCells (w.heap.size + 1) 0 D.toList) := by
  obtain ⟨h1, h2, ⟨Z, hZ, h3⟩, h4⟩ := h
  have h5 := h3.setCells (D := D) (by omega)
  exact ⟨fun j => by rw [World.cell?_setCells_out _ _ _ _ _ (fun h _ => by simp at h)]; exact h1 j, h5.there 20 (by omega), ⟨D, hD, h5⟩, below_setCells _ (by omega) _ _ _ h4⟩

set_option maxRecDepth 100000 in
set_option maxHeartbeats 2000000 in
theorem toRecord_any (c : RecD) (w : World) (hc : c.Ok) :
    Calls Try.prog 10 #[.agg c.cells] w fun r w' => r = .returned (.agg c.rc) ∧ Below w.heap.size w w' := by
  have f0 : c.cells[0]? = some (.int .i64 c.st) := rfl
  have f1 : c.cells[1]? = some (.int .u32 c.opc) := rfl
  have f2 : c.cells[2]? = some (.int .u32 c.dpc) := rfl
  have f3 : c.cells[3]? = some (.int .u16 c.cic) := rfl
  have f4 : c.cells[4]? = some (.string c.calling) := rfl
  have f5 : c.cells[5]? = some (.string c.called) := rfl
  have f6 : c.cells[6]? = some (.int .i64 c.ans) := rfl
  have f7 : c.cells[7]? = some (.int .i64 c.rel) := rfl
  have f8 : c.cells[8]? = some (.string c.party) := rfl
  have f9 : c.cells[9]? = some (.int .u8 c.cause) := rfl
  have f10 : c.cells[10]? = some (.bool c.hc) := rfl
  have f11 : c.cells[11]? = some (.bool c.cl) := rfl
  have f12 : c.cells[12]? = some (.int .i64 c.msgs) := rfl
  have f13 : c.cells[13]? = some (.slice c.la c.ln c.lc) := rfl
  have hb38 := built38 c
  have hst : ∀ W : World, W.there (w.heap.size + 1) 0 20 → (storeCells ⟨w.heap.size + 1, 0, none⟩ c.rc.toList).run Try.prog W = .ok () (W.setCells (w.heap.size + 1) 0 c.rc.toList) := fun W h => run_storeList W _ _ 20 c.rc_size h c.rc_one
  have hr1 := c.rc_size
  go_enter Try.func10, Try.ntmps10
  go_wp2_with fail
  go_region_held3 (fun w' => (∀ j, w'.cell? ⟨w.heap.size, j, none⟩ = c.cells[j]?) ∧ w'.there (w.heap.size + 1) 0 20 ∧ (∃ Z : Array Value, Z.size = 20 ∧ Blk w' (w.heap.size + 1) Z 38) ∧ Below w.heap.size w w')
    (first | with_reducible exact keep_rec_store (by assumption) _ c.rc_size | with_reducible exact keep_rec (by assumption) (by assumption) | with_reducible exact start_rec w c _ (by simp))
    (first
      | (go_at_call 26; refine (zzat_any _ _ (by first | exact hc.st1 | exact hc.an1 | exact hc.re1) (by first | exact hc.st2 | exact hc.an2 | exact hc.re2)).mono ?_; rintro r w1 ⟨rfl, hb⟩))
  have q0 := start_rec w c _ (show (#[.int .u64 0, .int .i64 0, .pointer none, .int .u32 0, .int .u32 0, .int .u16 0, .string { data := #[] }, .string { data := #[] }, .int .u64 0, .int .i64 0, .pointer none, .int .u64 0, .int .i64 0, .pointer none, .string { data := #[] }, .int .u8 0, .bool false, .bool false, .int .i64 0, .slice none 0 0] : Array Value).size = 20 from rfl)
  have q1 := keep_rec q0 (by with_reducible assumption)
  have q2 := keep_rec q1 (by with_reducible assumption)
  have q3 := keep_rec q2 (by with_reducible assumption)
  obtain ⟨_, _, ⟨Z, hZ, hB⟩, hbel⟩ := q3
  clear q0 q1 q2
  have hB2 := hB.setCells (D := c.rc) (by rw [hZ]; exact c.rc_size)
  go_wp2_with fail
  exact bodyPost_ret (ret38 rfl _ _ _ 38 c.rc rfl hB2 c.rc_size) rfl ⟨rfl, below_setCells _ (by omega) _ _ _ hbel⟩

end Go.Proofs.Qxb6603484a
