/-
  THE WALKS of ZZnewCall, ZZnewMessage, release.
-/
import Derived.Test.Qxb6603484aRecD
import Derived.Deep.RegionHeld3
namespace Go.Proofs.Qxb6603484a
open Go.RowKit
set_option linter.unusedVariables false
attribute [local go_sem ↓] exec_build62 exec_build65

set_option maxRecDepth 100000 in
set_option maxHeartbeats 1000000 in
theorem newCall_any (c : RecD) (k lo hi : Int) (e : Bool) (w : World) :
    Calls Try.prog 9 #[.agg c.rc, .int .u16 k, .int .u32 lo, .int .u32 hi, .bool e] w fun r w' => ∃ B, r = .returned (.pointer (some ⟨B, 0, none⟩)) ∧ w.heap.size ≤ B ∧ Blk w' B (callC c k lo hi e) 62 ∧ Below w.heap.size w w' := by
  have hi38 : (Try.prog.info? 38).map (·.size) = some c.rc.size := Try.size38
  have hg : (w.alloc (.cells c.rc 38)).heap[w.heap.size]? = some (.cells c.rc 38 (0, 0)) := heap_alloc_new w _
  have hb62 := built62 c k lo hi e
  go_enter Try.func9, Try.ntmps9
  go_wp2_with (refine wpList_load_row rfl 38 (.tmp 5) rfl w.heap.size rfl 38 c.rc (0, 0) _ hg Try.underlying38 rfl hi38 ?_)
  go_ret
  refine ⟨w.heap.size + 1, rfl, by omega, ?_, below2 _ _ _⟩
  have := Blk.new (w.alloc (.cells c.rc 38)) (callC c k lo hi e) 62
  simpa using this

set_option maxRecDepth 100000 in
set_option maxHeartbeats 1000000 in
theorem newMessage_any (m : MsgD) (w : World) (ha1 : -9223372036854775808 ≤ m.tm) (ha2 : m.tm ≤ 9223372036854775807) :
    Calls Try.prog 11 #[.int .i64 m.tm, .string m.link, .int .u32 m.opc, .int .u32 m.dpc, .int .u16 m.cic, .int .u8 m.typ, .string m.calling, .string m.called, .int .u8 m.cause, .bool m.hc] w
      fun r w' => ∃ B, r = .returned (.pointer (some ⟨B, 0, none⟩)) ∧ w.heap.size ≤ B ∧ Blk w' B m.ms 65 ∧ Below w.heap.size w w' := by
  have hb65 := built65 m
  go_enter Try.func11, Try.ntmps11
  go_wp2_with (go_at_call 26; refine (zzat_any m.tm _ ha1 ha2).mono ?_; rintro r w1 ⟨rfl, hb⟩)
  go_ret
  exact ⟨w1.heap.size, rfl, hb.size, Blk.new w1 m.ms 65, hb.alloc hb.size _⟩

/-- Block B alone has turned. -/
structure Only (B : Nat) (w w' : World) : Prop where
  os : w'.os = w.os
  tape : w'.tape = w.tape
  output : w'.output = w.output
  size : w'.heap.size = w.heap.size
  block : ∀ k, k ≠ B → w'.heap[k]? = w.heap[k]?
theorem Only.refl (B : Nat) (w : World) : Only B w w := ⟨rfl, rfl, rfl, rfl, fun _ _ => rfl⟩
theorem Only.setCell {B : Nat} {a w : World} (h : Only B a w) (j : Nat) (u : Value) : Only B a (w.setCell ⟨B, j, none⟩ u) :=
  ⟨h.os, h.tape, h.output, by rw [← h.size]; simp [World.setCell], fun k hk => (Below.heap_setCell _ ⟨B, j, none⟩ u k hk).trans (h.block k hk)⟩
theorem Only.drew {B : Nat} {a w : World} (h : Only B a w) : Only B a w.drew := ⟨h.os, h.tape, h.output, h.size, h.block⟩
theorem Only.blk {B b : Nat} {w w' : World} {C : Array Value} {t : TypeId} (h : Only B w w') (hb : Blk w b C t) (hne : b ≠ B) : Blk w' b C t := (h.block b hne).trans hb
theorem Only.below {B N : Nat} {w w' : World} (h : Only B w w') (hN : N ≤ B) : Below N w w' := ⟨h.os, h.tape, h.output, by rw [h.size]; exact Nat.le_refl _, fun k hk => h.block k (by omega)⟩

theorem Only.drewN {B : Nat} {a w : World} (h : Only B a w) (n : Nat) : Only B a (w.drewN n) := ⟨h.os, h.tape, h.output, h.size, h.block⟩
theorem Blk.drewN {w : World} {b : Nat} {C : Array Value} {t : TypeId} (h : Blk w b C t) (n : Nat) : Blk (w.drewN n) b C t := h

theorem rel_same (c : RecD) (m : MsgD) (k lo hi : Int) (e : Bool) (h : m.opc = c.opc) :
    (((((((callC c k lo hi e).setIfInBounds 11 (.int .u64 (m.tm % 1000000000))).setIfInBounds 12 (.int .i64 (m.tm / 1000000000))).setIfInBounds 13 (.pointer none)).setIfInBounds 14 (.string bCalled)).setIfInBounds 14 (.string bCalling)).setIfInBounds 15 (.int .u8 m.cause)).setIfInBounds 16 (.bool m.hc) = callC (c.released m) k lo hi e := by
  simp only [callC, RecD.released, if_pos h, List.setIfInBounds_toArray, List.set_cons_succ, List.set_cons_zero]
theorem rel_other (c : RecD) (m : MsgD) (k lo hi : Int) (e : Bool) (h : ¬ m.opc = c.opc) :
    ((((((callC c k lo hi e).setIfInBounds 11 (.int .u64 (m.tm % 1000000000))).setIfInBounds 12 (.int .i64 (m.tm / 1000000000))).setIfInBounds 13 (.pointer none)).setIfInBounds 14 (.string bCalled)).setIfInBounds 15 (.int .u8 m.cause)).setIfInBounds 16 (.bool m.hc) = callC (c.released m) k lo hi e := by
  simp only [callC, RecD.released, if_neg h, List.setIfInBounds_toArray, List.set_cons_succ, List.set_cons_zero]

set_option maxRecDepth 100000 in
set_option maxHeartbeats 1000000 in
theorem release_any (B M : Nat) (c : RecD) (m : MsgD) (k lo hi : Int) (e : Bool) (w : World) (hB : Blk w B (callC c k lo hi e) 62) (hM : Blk w M m.ms 65) (hne : M ≠ B) :
    Calls Try.prog 27 #[.pointer (some ⟨B, 0, none⟩), .pointer (some ⟨M, 0, none⟩)] w fun r w' => r = .returned (.tuple #[]) ∧ Blk w' B (callC (c.released m) k lo hi e) 62 ∧ Only B w w' := by
  have cB := hB.cell
  have fB := hB.frozen
  have cM := hM.cell
  have m0 : m.ms[0]? = some (.int .u64 (m.tm % 1000000000)) := rfl
  have m1 : m.ms[1]? = some (.int .i64 (m.tm / 1000000000)) := rfl
  have m2 : m.ms[2]? = some (.pointer none) := rfl
  have m4 : m.ms[4]? = some (.int .u32 m.opc) := rfl
  have m10 : m.ms[10]? = some (.int .u8 m.cause) := rfl
  have m11 : m.ms[11]? = some (.bool m.hc) := rfl
  have c3 : (callC c k lo hi e)[3]? = some (.int .u32 c.opc) := rfl
  have c11 : (callC c k lo hi e)[11]? = some (.int .u64 (c.rel % 1000000000)) := rfl
  have c12 : (callC c k lo hi e)[12]? = some (.int .i64 (c.rel / 1000000000)) := rfl
  have c13 : (callC c k lo hi e)[13]? = some (.pointer none) := rfl
  have c14 : (callC c k lo hi e)[14]? = some (.string c.party) := rfl
  have c15 : (callC c k lo hi e)[15]? = some (.int .u8 c.cause) := rfl
  have c16 : (callC c k lo hi e)[16]? = some (.bool c.hc) := rfl
  by_cases hq : m.opc = c.opc
  · have HQ : Hid (m.opc = c.opc) := hq
    have hq' : (m.opc == c.opc) = true := by simpa using hq
    clear hq
    go_enter Try.func27, Try.ntmps27
    go_wp2_with fail
    go_quiet (fail)
    go_wp2_with fail
    go_region
    go_wp2_with fail
    go_end0
    refine ⟨rfl, ?_, ?_⟩
    · rw [← rel_same c m k lo hi e HQ.out]
      exact ((((((((hB.setCell 11 _).setCell 12 _).setCell 13 _).setCell 14 _).drewN nq).setCell 14 _).setCell 15 _).setCell 16 _).drew
    · exact (((((((((Only.refl B w).setCell 11 _).setCell 12 _).setCell 13 _).setCell 14 _).drewN nq).setCell 14 _).setCell 15 _).setCell 16 _).drew
  · have HQ : Hid (¬ m.opc = c.opc) := hq
    have hq' : (m.opc == c.opc) = false := by simpa using hq
    clear hq
    go_enter Try.func27, Try.ntmps27
    go_wp2_with fail
    go_quiet (fail)
    go_wp2_with fail
    go_region
    go_wp2_with fail
    go_end0
    refine ⟨rfl, ?_, ?_⟩
    · rw [← rel_other c m k lo hi e HQ.out]
      exact ((((((hB.setCell 11 _).setCell 12 _).setCell 13 _).setCell 14 _).drewN (nq + 1)).setCell 15 _).setCell 16 _
    · exact (((((((Only.refl B w).setCell 11 _).setCell 12 _).setCell 13 _).setCell 14 _).drewN (nq + 1)).setCell 15 _).setCell 16 _

theorem zzrelease_any (B M : Nat) (c : RecD) (m : MsgD) (k lo hi : Int) (e : Bool) (w : World) (hB : Blk w B (callC c k lo hi e) 62) (hM : Blk w M m.ms 65) (hne : M ≠ B) :
    Calls Try.prog 12 #[.pointer (some ⟨B, 0, none⟩), .pointer (some ⟨M, 0, none⟩)] w fun r w' => r = .returned (.tuple #[]) ∧ Blk w' B (callC (c.released m) k lo hi e) 62 ∧ Only B w w' := by
  go_enter Try.func12, Try.ntmps12
  go_wp2_with (go_at_call 27; refine (release_any B M c m k lo hi e _ hB hM hne).mono ?_; rintro r w1 ⟨rfl, h1, h2⟩)
  go_end0
  exact ⟨rfl, h1, h2⟩

set_option maxRecDepth 100000 in
set_option maxHeartbeats 1000000 in
theorem callCircuit_any (B : Nat) (c : RecD) (k lo hi : Int) (e : Bool) (w : World) (hB : Blk w B (callC c k lo hi e) 62) :
    Calls Try.prog 15 #[.pointer (some ⟨B, 0, none⟩)] w fun r w' => r = .returned (.tuple #[.int .u16 k, .int .u32 lo, .int .u32 hi, .bool e]) ∧ ∃ n, w' = w.drewN n := by
  have cB := hB.cell
  have c20 : (callC c k lo hi e)[20]? = some (.int .u16 k) := rfl
  have c21 : (callC c k lo hi e)[21]? = some (.int .u32 lo) := rfl
  have c22 : (callC c k lo hi e)[22]? = some (.int .u32 hi) := rfl
  have c23 : (callC c k lo hi e)[23]? = some (.bool e) := rfl
  go_enter Try.func15, Try.ntmps15
  go_wp2_with fail
  go_quiet (fail)
  go_wp2_with fail
  exact bodyPost_ret (v := .tuple #[.int .u16 k, .int .u32 lo, .int .u32 hi, .bool e]) (by simp [results, Try.results15, go_sem]) rfl ⟨rfl, nq, rfl⟩

theorem callC_rc (c : RecD) (k lo hi : Int) (e : Bool) : ((callC c k lo hi e).extract 0 (0 + 20)).toList = c.rc.toList := by
  simp [callC, RecD.rc]

set_option maxRecDepth 100000 in
set_option maxHeartbeats 1000000 in
theorem callRecord_any (B : Nat) (c : RecD) (k lo hi : Int) (e : Bool) (w : World) (hB : Blk w B (callC c k lo hi e) 62) :
    Calls Try.prog 13 #[.pointer (some ⟨B, 0, none⟩)] w fun r w' => r = .returned (.agg c.rc) ∧ Below w.heap.size w w' := by
  have hi38 : (Try.prog.info? 38).map (·.size) = some c.rc.toList.length := Try.size38
  have hlt := hB.lt
  obtain ⟨Z, hZ⟩ : ∃ Z : Array Value, Z = #[.int .u64 0, .int .i64 0, .pointer none, .int .u32 0, .int .u32 0, .int .u16 0, .string { data := #[] }, .string { data := #[] }, .int .u64 0, .int .i64 0, .pointer none, .int .u64 0, .int .i64 0, .pointer none, .string { data := #[] }, .int .u8 0, .bool false, .bool false, .int .i64 0, .slice none 0 0] := ⟨_, rfl⟩
  have hZs : Z.size = 20 := by rw [hZ]; rfl
  have hr : (w.alloc (.cells Z 38)).rangeAt B 0 c.rc.toList := by
    have := World.rangeAt_of_block (hB.alloc (.cells Z 38)) 0 20
    rwa [callC_rc] at this
  have hN := Blk.new w Z 38
  have hst : (storeCells ⟨w.heap.size, 0, none⟩ c.rc.toList).run Try.prog (w.alloc (.cells Z 38)) = .ok () ((w.alloc (.cells Z 38)).setCells w.heap.size 0 c.rc.toList) := run_storeList _ _ _ 20 c.rc_size (hN.there 20 (by omega)) c.rc_one
  have hN2 := hN.setCells (D := c.rc) (by rw [hZs]; exact c.rc_size)
  have hr1 := c.rc_size
  rw [hZ] at hr hst hN2
  go_enter Try.func13, Try.ntmps13
  go_wp2_with (refine wpList_load_mid rfl 38 (.tmp 5) rfl B 0 rfl c.rc.toList _ hr Try.underlying38 rfl hi38 ?_)
  exact bodyPost_ret (ret38 rfl _ _ _ 38 c.rc rfl hN2 c.rc_size) rfl ⟨rfl, below_setCells _ (Nat.le_refl _) _ _ _ ((Below.refl _ _).alloc (Nat.le_refl _) _)⟩

end Go.Proofs.Qxb6603484a
