/-
  THE WALK of recordIs, at a record and a Rec of one content.
-/
import Derived.Test.Qxb6603484aRel
namespace Go.Proofs.Qxb6603484a
open Go.RowKit
set_option linter.unusedVariables false

/-- n strings lie in block b from offset off on. -/
def Strs (w : World) (b off n : Nat) (s : Nat → ByteArray) : Prop := ∀ i, i < n → w.cell? ⟨b, off + i, none⟩ = some (.string (s i))
/-- WHAT A SLICE OF STRINGS IS TO A READER: it is empty, or its n strings lie in a block, as s says. -/
def SRow (w : World) (ao : Option Addr) (n : Nat) (s : Nat → ByteArray) : Prop := n = 0 ∨ ∃ b off, ao = some ⟨b, off, none⟩ ∧ Strs w b off n s
theorem Strs.later {w wx : World} {b off n : Nat} {s : Nat → ByteArray} (h : Strs w b off n s) (hb : Below w.heap.size w wx) : Strs wx b off n s := fun i hi => cell_later hb (h i hi)
theorem SRow.later {w wx : World} {ao : Option Addr} {n : Nat} {s : Nat → ByteArray} (h : SRow w ao n s) (hb : Below w.heap.size w wx) : SRow wx ao n s := by
  rcases h with h | ⟨b, off, e, h⟩
  · exact .inl h
  · exact .inr ⟨b, off, e, h.later hb⟩

theorem zzns_agg (a : Int) (w : World) (ha1 : -9223372036854775808 ≤ a) (ha2 : a ≤ 9223372036854775807) :
    Calls Try.prog 28 #[.agg #[.int .u64 (a % 1000000000), .int .i64 (a / 1000000000), .pointer none]] w fun r w' => r = .returned (.int .i64 a) ∧ Below w.heap.size w w' := zzns_any a w ha1 ha2

/-- What stands while recordIs compares: both boxes. -/
abbrev IsS (w : World) (c : RecD) (W : World) : Prop := (∀ j, W.cell? ⟨w.heap.size, j, none⟩ = c.rc[j]?) ∧ (∀ j, W.cell? ⟨w.heap.size + 1, j, none⟩ = c.cells[j]?) ∧ w.heap.size + 1 < W.heap.size ∧ Below w.heap.size w W

theorem start_is (w : World) (c : RecD) : IsS w c ((w.alloc (.cells c.rc 38)).alloc (.cells c.cells 26)) := by
  have h1 : Blk ((w.alloc (.cells c.rc 38)).alloc (.cells c.cells 26)) w.heap.size c.rc 38 := (Blk.new w c.rc 38).alloc _
  have h2 : Blk ((w.alloc (.cells c.rc 38)).alloc (.cells c.cells 26)) (w.heap.size + 1) c.cells 26 := by
    have := Blk.new (w.alloc (.cells c.rc 38)) c.cells 26
    simpa using this
  exact ⟨fun j => h1.cell j, fun j => h2.cell j, by simp, below2 w _ _⟩
theorem keep_is {w W w1 : World} {c : RecD} (h : IsS w c W) (hb : Below W.heap.size W w1) : IsS w c w1 := by
  obtain ⟨h1, h2, h3, h4⟩ := h
  exact ⟨fun j => by rw [hb.cell (p := ⟨w.heap.size, j, none⟩) (by show w.heap.size < _; omega)]; exact h1 j, fun j => by rw [hb.cell (p := ⟨w.heap.size + 1, j, none⟩) h3]; exact h2 j, Nat.lt_of_lt_of_le h3 hb.size, h4.trans (hb.mono h4.size)⟩
theorem is_drew {w W : World} {c : RecD} (h : IsS w c W) : IsS w c W.drew := ⟨h.1, h.2.1, h.2.2.1, h.2.2.2.drew⟩

set_option maxRecDepth 100000 in
set_option maxHeartbeats 2000000 in
theorem recordIs_any (c : RecD) (s : Nat → ByteArray) (w : World) (hc : c.Ok) (hn : c.ln ≤ 65536) (hl : SRow w c.la c.ln s) :
    Calls Try.prog 14 #[.agg c.rc, .agg c.cells] w fun r w' => r = .returned (.bool true) ∧ Below w.heap.size w w' := by
  have f0 : c.cells[0]? = some (.int .i64 c.st) := rfl
  have f1 : c.cells[1]? = some (.int .u32 c.opc) := rfl
  have f2 : c.cells[2]? = some (.int .u32 c.dpc) := rfl
  have f3 : c.cells[3]? = some (.int .u16 c.cic) := rfl
  have f4 : c.cells[4]? = some (.string c.calling) := rfl
  have f5 : c.cells[5]? = some (.string c.called) := rfl
  have f6 : c.cells[6]? = some (.int .i64 c.ans) := rfl
  have f7 : c.cells[7]? = some (.int .i64 c.rel) := rfl
  have f8 : c.cells[8]? = some (.string c.party) := rfl
  have f9 : c.cells[9]? = some (.int .u8 c.cause) := rfl
  have f10 : c.cells[10]? = some (.bool c.hc) := rfl
  have f11 : c.cells[11]? = some (.bool c.cl) := rfl
  have f12 : c.cells[12]? = some (.int .i64 c.msgs) := rfl
  have f13 : c.cells[13]? = some (.slice c.la c.ln c.lc) := rfl
  have r0 : c.rc[0]? = some (.int .u64 (c.st % 1000000000)) := rfl
  have r1 : c.rc[1]? = some (.int .i64 (c.st / 1000000000)) := rfl
  have r2 : c.rc[2]? = some (.pointer none) := rfl
  have r3 : c.rc[3]? = some (.int .u32 c.opc) := rfl
  have r4 : c.rc[4]? = some (.int .u32 c.dpc) := rfl
  have r5 : c.rc[5]? = some (.int .u16 c.cic) := rfl
  have r6 : c.rc[6]? = some (.string c.calling) := rfl
  have r7 : c.rc[7]? = some (.string c.called) := rfl
  have r8 : c.rc[8]? = some (.int .u64 (c.ans % 1000000000)) := rfl
  have r9 : c.rc[9]? = some (.int .i64 (c.ans / 1000000000)) := rfl
  have r10 : c.rc[10]? = some (.pointer none) := rfl
  have r11 : c.rc[11]? = some (.int .u64 (c.rel % 1000000000)) := rfl
  have r12 : c.rc[12]? = some (.int .i64 (c.rel / 1000000000)) := rfl
  have r13 : c.rc[13]? = some (.pointer none) := rfl
  have r14 : c.rc[14]? = some (.string c.party) := rfl
  have r15 : c.rc[15]? = some (.int .u8 c.cause) := rfl
  have r16 : c.rc[16]? = some (.bool c.hc) := rfl
  have r17 : c.rc[17]? = some (.bool c.cl) := rfl
  have r18 : c.rc[18]? = some (.int .i64 c.msgs) := rfl
  have r19 : c.rc[19]? = some (.slice c.la c.ln c.lc) := rfl
  obtain ⟨la, hla⟩ : ∃ la, c.la = la := ⟨_, rfl⟩
  obtain ⟨ln, hln⟩ : ∃ ln, c.ln = ln := ⟨_, rfl⟩
  rw [hla, hln] at f13 r19 hl
  rw [hln] at hn
  clear hla hln
  have q24 := fun (w : World) (a : Option Addr) (n c : Nat) => Lib.run_eql_slice_nil (P := Try.prog) w 24 9 a n c 0 0 Try.underlying24
  have hS := start_is w c
  have HS : Hid (IsS w c ((w.alloc (.cells c.rc 38)).alloc (.cells c.cells 26))) := hS
  clear hS
  go_enter Try.func14, Try.ntmps14
  go_wp2_with fail
  go_region_held3 (fun W => (∀ j, W.cell? ⟨w.heap.size, j, none⟩ = c.rc[j]?) ∧ (∀ j, W.cell? ⟨w.heap.size + 1, j, none⟩ = c.cells[j]?) ∧ w.heap.size + 1 < W.heap.size ∧ Below w.heap.size w W)
    (first | with_reducible exact keep_is (by assumption) (by assumption) | with_reducible exact is_drew HS.out)
    (first | (go_at_call 28; refine (zzns_agg c.st _ hc.st1 hc.st2).mono ?_; rintro r w1 ⟨rfl, hb⟩))
  have hS1 : IsS w c w1 := by with_reducible assumption
  have HS1 : Hid (IsS w c w1) := hS1
  go_wp2_with fail
  clear hS1
  go_region_held3 (fun W => (∀ j, W.cell? ⟨w.heap.size, j, none⟩ = c.rc[j]?) ∧ (∀ j, W.cell? ⟨w.heap.size + 1, j, none⟩ = c.cells[j]?) ∧ w.heap.size + 1 < W.heap.size ∧ Below w.heap.size w W)
    (first | with_reducible exact keep_is (by assumption) (by assumption) | with_reducible exact is_drew HS1.out)
    (first
      | (go_at_call 28; refine (zzns_agg c.ans _ hc.an1 hc.an2).mono ?_; rintro r w2 ⟨rfl, hb⟩)
      | (go_at_call 28; refine (zzns_agg c.rel _ hc.re1 hc.re2).mono ?_; rintro r w2 ⟨rfl, hb⟩))
  have hS2 : IsS w c w2 := by with_reducible assumption
  have HS2 : Hid (IsS w c w2) := hS2
  have hb2 := hS2.2.2.2
  go_wp2_with fail
  clear hS2
  go_loopw [5] (fun t wr => ∃ k m : Nat, k ≤ ln ∧ t = .int .i64 k ∧ wr = w2.drewN m) (fun t _ => ln - (intOf t).toNat)
  case atStart => exact ⟨0, 0, Nat.zero_le _, rfl, rfl⟩
  case round =>
    obtain ⟨k, m, hk, rfl, rfl⟩ := hrel
    by_cases hlt : k < ln
    · rcases hl with h | ⟨b, off, rfl, ht⟩
      · omega
      have hc1 : w2.cell? ⟨b, off + k, none⟩ = some (.string (s k)) := cell_later hb2 (ht k hlt)
      go_wp2_with fail
      go_quiet (fail)
      go_wp2_with fail
      go_roundw
      case rel => exact ⟨k + 1, _, by omega, by go_num, rfl⟩
      case measure => simp [intOf]; omega
    · go_wp2_with fail
      go_ret
      exact ⟨rfl, below_drewN hb2 m⟩

end Go.Proofs.Qxb6603484a
