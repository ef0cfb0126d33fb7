/-
  AN ASSEMBLER IN MEMORY, and the walks of the small functions on it.
-/
import Derived.Test.Qxb6603484aKit
import Derived.BigQuiet
import Derived.WideLaws
import Derived.Deep.RegionHeld3
namespace Go.Proofs.Qxb6603484a
open Go.RowKit
set_option linter.unusedVariables false

/-- The cells of an Assembler: no emit, the map m, the waiting list v, k names gone through, no spare, no pending, the clock. -/
def aCells (m : Nat) (v : Value) (k lat : Int) : Array Value :=
  #[.nilFunc, .map (some m), v, .int .i64 k, .slice none 0 0, .slice none 0 0, .int .u64 (lat % 1000000000), .int .i64 (lat / 1000000000), .pointer none]
/-- A name in the waiting list. -/
structure WD where
  t : Int
  cic : Int
  lo : Int
  hi : Int
def WD.cells (d : WD) : List Value := [.int .u64 (d.t % 1000000000), .int .i64 (d.t / 1000000000), .pointer none, .int .u16 d.cic, .int .u32 d.lo, .int .u32 d.hi]
/-- more than 10 ms older. -/
def older (l t : Int) : Bool := decide (t + 10000000 < l)

section
variable (m : Nat) (v : Value) (k lat : Int)
theorem aC0 : (aCells m v k lat)[0]? = some .nilFunc := rfl
theorem aC1 : (aCells m v k lat)[1]? = some (.map (some m)) := rfl
theorem aC2 : (aCells m v k lat)[2]? = some v := rfl
theorem aC3 : (aCells m v k lat)[3]? = some (.int .i64 k) := rfl
theorem aC4 : (aCells m v k lat)[4]? = some (.slice none 0 0) := rfl
theorem aC5 : (aCells m v k lat)[5]? = some (.slice none 0 0) := rfl
theorem aC6 : (aCells m v k lat)[6]? = some (.int .u64 (lat % 1000000000)) := rfl
theorem aC7 : (aCells m v k lat)[7]? = some (.int .i64 (lat / 1000000000)) := rfl
theorem aC8 : (aCells m v k lat)[8]? = some (.pointer none) := rfl
end

set_option maxHeartbeats 400000 in
theorem older_any (l t : Int) (w : World) (h1 : -9223372036854775808 ≤ l) (h2 : l ≤ 9223372036854775807) (h3 : -9223372036854775808 ≤ t) (h4 : t ≤ 9223372036854775807) :
    Calls Try.prog 33 #[.int .i64 l, .int .i64 t] w fun r w' => r = .returned (.bool (older l t)) ∧ w' = w := by
  have e : ∀ x, IntKind.u64.wrap x = x % 18446744073709551616 := fun _ => rfl
  by_cases hc : l ≤ t
  · have h : older l t = false := by unfold older; simp; omega
    rw [h]
    go_enter Try.func33, Try.ntmps33
    go_wp2
    go_ret
    exact ⟨rfl, rfl⟩
  · have h : older l t = decide (10000000 < IntKind.u64.wrap (IntKind.u64.wrap l - IntKind.u64.wrap t)) := by
      unfold older
      rw [e, e, e]
      congr 1
      rw [eq_iff_iff]
      omega
    rw [h]
    go_enter Try.func33, Try.ntmps33
    go_wp2
    go_ret
    exact ⟨rfl, rfl⟩

theorem zzwaited_any (b m : Nat) (v : Value) (k lat : Int) (w : World) (h : Blk w b (aCells m v k lat) 85) :
    Calls Try.prog 34 #[.pointer (some ⟨b, 0, none⟩)] w fun r w' => r = .returned (.int .i64 k) ∧ w' = w := by
  have c := h.cell
  have c3 := aC3 m v k lat
  go_enter Try.func34, Try.ntmps34
  go_wp2
  go_ret
  exact ⟨rfl, rfl⟩

theorem zzlen_any (b m : Nat) (p : Option Addr) (n cap : Nat) (k lat : Int) (w : World) (h : Blk w b (aCells m (.slice p n cap) k lat) 85) :
    Calls Try.prog 35 #[.pointer (some ⟨b, 0, none⟩)] w fun r w' => r = .returned (.int .i64 n) ∧ w' = w := by
  have c := h.cell
  have c2 := aC2 m (.slice p n cap) k lat
  go_enter Try.func35, Try.ntmps35
  go_wp2
  go_ret
  exact ⟨rfl, rfl⟩

theorem eqlFunc (w : World) : (binOp .eql 79 .nilFunc .nilFunc).run Try.prog w = .ok (.bool true) w := by kernel_rfl
theorem eqlMap (m : Nat) (w : World) : (binOp .eql 80 (.map (some m)) (.map none)).run Try.prog w = .ok (.bool false) w := by kernel_rfl

theorem zzemit_any (b m : Nat) (v : Value) (k lat : Int) (w : World) (h : Blk w b (aCells m v k lat) 85) :
    Calls Try.prog 39 #[.pointer (some ⟨b, 0, none⟩)] w fun r w' => r = .returned (.bool true) ∧ w' = w := by
  have c := h.cell
  have c0 := aC0 m v k lat
  have q := eqlFunc
  go_enter Try.func39, Try.ntmps39
  go_wp2
  go_ret
  exact ⟨rfl, rfl⟩


theorem below_drewN (w : World) (n : Nat) : Below w.heap.size w (w.drewN n) := ⟨rfl, rfl, rfl, Nat.le_refl _, fun _ _ => rfl⟩
theorem len80 (m : Nat) (ty : TypeId) (W : World) (hb : W.heap[m]? = some (.map #[] 0)) : (Builtin.len_ #[80] ty #[.map (some m)]).run Try.prog W = .ok (goInt 0) W := by
  simp [Builtin.len_, run_underlying Try.underlying80, run_getObj_map W m #[] 0 hb]
attribute [local go_sem] len80

theorem zzcounts_any (b m : Nat) (v : Value) (k lat : Int) (w : World) (h : Blk w b (aCells m v k lat) 85) (hm : w.heap[m]? = some (.map #[] 0)) :
    Calls Try.prog 37 #[.pointer (some ⟨b, 0, none⟩)] w fun r w' => r = .returned (.tuple #[.int .i64 0, .bool false, .int .i64 0, .int .i64 0]) ∧ Below w.heap.size w w' := by
  have c := h.cell
  have c1 := aC1 m v k lat
  have c4 := aC4 m v k lat
  have c5 := aC5 m v k lat
  have q := eqlMap
  go_enter Try.func37, Try.ntmps37
  go_wp2_with fail
  go_quiet (fail)
  go_wp2_with fail
  exact bodyPost_ret (v := .tuple #[.int .i64 0, .bool false, .int .i64 0, .int .i64 0]) (by simp [results, Try.results37, go_sem]) rfl ⟨rfl, below_drewN w nq⟩

theorem zzlatest_any (b m : Nat) (v : Value) (k lat : Int) (w : World) (h : Blk w b (aCells m v k lat) 85) (ha1 : -9223372036854775808 ≤ lat) (ha2 : lat ≤ 9223372036854775807) :
    Calls Try.prog 38 #[.pointer (some ⟨b, 0, none⟩)] w fun r w' => r = .returned (.int .i64 lat) ∧ Below w.heap.size w w' := by
  have c := h.cell
  have c6 := aC6 m v k lat
  have c7 := aC7 m v k lat
  have c8 := aC8 m v k lat
  go_enter Try.func38, Try.ntmps38
  go_wp2_with fail
  refine (zzns_any lat _ ha1 ha2).mono ?_
  rintro r w1 ⟨rfl, hb⟩
  go_wp2_with fail
  go_ret
  exact ⟨rfl, hb⟩

theorem aSet3 (m : Nat) (v : Value) (k lat k' : Int) : (aCells m v k lat).setIfInBounds 3 (.int .i64 k') = aCells m v k' lat := rfl
theorem aSet2 (m : Nat) (v v' : Value) (k lat : Int) : (aCells m v k lat).setIfInBounds 2 v' = aCells m v' k lat := rfl
theorem aSet6 (m : Nat) (v : Value) (k lat lat' : Int) : (((aCells m v k lat).setIfInBounds 6 (.int .u64 (lat' % 1000000000))).setIfInBounds 7 (.int .i64 (lat' / 1000000000))).setIfInBounds 8 (.pointer none) = aCells m v k lat' := rfl

/-- Beside the blocks in S and new ones all is as it was. -/
structure Apart (S : Nat → Prop) (w w' : World) : Prop where
  os : w'.os = w.os
  tape : w'.tape = w.tape
  output : w'.output = w.output
  size : w.heap.size ≤ w'.heap.size
  block : ∀ k, k < w.heap.size → ¬ S k → w'.heap[k]? = w.heap[k]?
theorem Apart.refl (S : Nat → Prop) (w : World) : Apart S w w := ⟨rfl, rfl, rfl, Nat.le_refl _, fun _ _ _ => rfl⟩
theorem Apart.trans {S : Nat → Prop} {a w w' : World} (h : Apart S a w) (h' : Apart S w w') : Apart S a w' :=
  ⟨h'.os.trans h.os, h'.tape.trans h.tape, h'.output.trans h.output, Nat.le_trans h.size h'.size, fun k hk hs => (h'.block k (Nat.lt_of_lt_of_le hk h.size) hs).trans (h.block k hk hs)⟩
theorem Apart.of_below {S : Nat → Prop} {w w' : World} (h : Below w.heap.size w w') : Apart S w w' := ⟨h.os, h.tape, h.output, h.size, fun k hk _ => h.block k hk⟩
theorem Apart.mono {S T : Nat → Prop} {w w' : World} (h : Apart S w w') (hST : ∀ k, S k → T k) : Apart T w w' := ⟨h.os, h.tape, h.output, h.size, fun k hk hs => h.block k hk (fun h => hs (hST k h))⟩
theorem Apart.below {S : Nat → Prop} {w w' : World} {N : Nat} (h : Apart S w w') (hN : N ≤ w.heap.size) (hS : ∀ k, k < N → ¬ S k) : Below N w w' := ⟨h.os, h.tape, h.output, h.size, fun k hk => h.block k (by omega) (hS k hk)⟩
theorem Apart.blk {S : Nat → Prop} {w w' : World} {b : Nat} {C : Array Value} {t : TypeId} (h : Apart S w w') (hb : Blk w b C t) (hne : ¬ S b) : Blk w' b C t := (h.block b hb.lt hne).trans hb
theorem Apart.setCell {S : Nat → Prop} {a w : World} (h : Apart S a w) (b j : Nat) (u : Value) (hb : S b) : Apart S a (w.setCell ⟨b, j, none⟩ u) :=
  ⟨h.os, h.tape, h.output, by have := h.size; simp [World.setCell]; omega, fun k hk hs => (Below.heap_setCell _ ⟨b, j, none⟩ u k (fun e => hs (e ▸ hb))).trans (h.block k hk hs)⟩
theorem Apart.drew {S : Nat → Prop} {a w : World} (h : Apart S a w) : Apart S a w.drew := ⟨h.os, h.tape, h.output, h.size, h.block⟩

theorem setWaited_any (b m : Nat) (v : Value) (k lat k' : Int) (w : World) (h : Blk w b (aCells m v k lat) 85) :
    Calls Try.prog 31 #[.pointer (some ⟨b, 0, none⟩), .int .i64 k'] w fun r w' => r = .returned (.tuple #[]) ∧ Blk w' b (aCells m v k' lat) 85 ∧ Apart (· = b) w w' := by
  have c := h.cell
  have f := h.frozen
  have c3 := aC3 m v k lat
  have R : Hid (Blk (w.setCell ⟨b, 3, none⟩ (.int .i64 k')) b (aCells m v k' lat) 85 ∧ Apart (· = b) w (w.setCell ⟨b, 3, none⟩ (.int .i64 k'))) := ⟨h.setCell 3 _, (Apart.refl _ _).setCell b 3 _ rfl⟩
  go_enter Try.func31, Try.ntmps31
  go_wp2
  go_end0
  exact ⟨rfl, R.out⟩

theorem setLatest_any (b m : Nat) (v : Value) (k lat lat' : Int) (w : World) (h : Blk w b (aCells m v k lat) 85) (ha1 : -9223372036854775808 ≤ lat') (ha2 : lat' ≤ 9223372036854775807) :
    Calls Try.prog 25 #[.pointer (some ⟨b, 0, none⟩), .int .i64 lat'] w fun r w' => r = .returned (.tuple #[]) ∧ Blk w' b (aCells m v k lat') 85 ∧ Apart (· = b) w w' := by
  have c6 := aC6 m v k lat
  have c7 := aC7 m v k lat
  have c8 := aC8 m v k lat
  go_enter Try.func25, Try.ntmps25
  go_wp2_with fail
  refine (zzat_any lat' _ ha1 ha2).mono ?_
  rintro r w1 ⟨rfl, hb⟩
  have h1 := h.later hb
  have c := h1.cell
  have f := h1.frozen
  unfold tT tv
  have R : Hid (Blk (((w1.setCell ⟨b, 6, none⟩ (.int .u64 (lat' % 1000000000))).setCell ⟨b, 7, none⟩ (.int .i64 (lat' / 1000000000))).setCell ⟨b, 8, none⟩ (.pointer none)) b (aCells m v k lat') 85 ∧ Apart (· = b) w (((w1.setCell ⟨b, 6, none⟩ (.int .u64 (lat' % 1000000000))).setCell ⟨b, 7, none⟩ (.int .i64 (lat' / 1000000000))).setCell ⟨b, 8, none⟩ (.pointer none))) :=
    ⟨((h1.setCell 6 _).setCell 7 _).setCell 8 _, (((Apart.of_below (S := (· = b)) hb).setCell b 6 _ rfl).setCell b 7 _ rfl).setCell b 8 _ rfl⟩
  clear h1
  go_wp2_with fail
  go_end0
  exact ⟨rfl, R.out⟩

theorem keepE {w : World} {b : Nat} {C : Array Value} {n s : Value} {W w1 : World}
    (h : (∀ j, W.cell? ⟨b, j, none⟩ = C[j]?) ∧ W.cell? ⟨w.heap.size, 0, none⟩ = some n ∧ W.cell? ⟨w.heap.size, 1, none⟩ = some s ∧ W.cell? ⟨w.heap.size, 2, none⟩ = some (.pointer none) ∧ b < w.heap.size ∧ w.heap.size < W.heap.size ∧ Below w.heap.size w W)
    (hb : Below W.heap.size W w1) :
    (∀ j, w1.cell? ⟨b, j, none⟩ = C[j]?) ∧ w1.cell? ⟨w.heap.size, 0, none⟩ = some n ∧ w1.cell? ⟨w.heap.size, 1, none⟩ = some s ∧ w1.cell? ⟨w.heap.size, 2, none⟩ = some (.pointer none) ∧ b < w.heap.size ∧ w.heap.size < w1.heap.size ∧ Below w.heap.size w w1 := by
  obtain ⟨h1, h2, h3, h4, h5, h6, h7⟩ := h
  obtain ⟨hc, _⟩ := bcell hb
  exact ⟨fun j => by rw [hc b j (by omega)]; exact h1 j, by rw [hc _ _ h6]; exact h2, by rw [hc _ _ h6]; exact h3, by rw [hc _ _ h6]; exact h4, h5, by have := hb.size; omega, h7.trans (hb.mono (by omega))⟩

set_option maxHeartbeats 400000 in
theorem expired_any (b m : Nat) (v : Value) (k lat t : Int) (w : World) (h : Blk w b (aCells m v k lat) 85) (ha1 : -9223372036854775808 ≤ lat) (ha2 : lat ≤ 9223372036854775807) (ht1 : -9223372036854775808 ≤ t) (ht2 : t ≤ 9223372036854775807) :
    Calls Try.prog 42 #[.pointer (some ⟨b, 0, none⟩), tT t] w fun r w' => r = .returned (.bool (older lat t)) ∧ Below w.heap.size w w' := by
  have hs := sub_any lat t
  have ho : Hid (older lat t = decide (10000000 < subD lat t)) := by
    show _ = _
    unfold older subD
    rw [Bool.eq_iff_iff]
    simp only [decide_eq_true_eq]
    split
    · omega
    · split <;> omega
  have hlt := h.lt
  have hc := (h.alloc (.cells #[.int .u64 (t % 1000000000), .int .i64 (t / 1000000000), .pointer none] 36)).cell
  have c6 := aC6 m v k lat
  have c7 := aC7 m v k lat
  have c8 := aC8 m v k lat
  unfold tT tv at hs
  unfold tT tv
  go_enter Try.func42, Try.ntmps42
  go_wp2_with fail
  have start : (∀ j, (w.alloc (.cells #[.int .u64 (t % 1000000000), .int .i64 (t / 1000000000), .pointer none] 36)).drew.cell? ⟨b, j, none⟩ = (aCells m v k lat)[j]?) ∧
      (w.alloc (.cells #[.int .u64 (t % 1000000000), .int .i64 (t / 1000000000), .pointer none] 36)).drew.cell? ⟨w.heap.size, 0, none⟩ = some (.int .u64 (t % 1000000000)) ∧
      (w.alloc (.cells #[.int .u64 (t % 1000000000), .int .i64 (t / 1000000000), .pointer none] 36)).drew.cell? ⟨w.heap.size, 1, none⟩ = some (.int .i64 (t / 1000000000)) ∧
      (w.alloc (.cells #[.int .u64 (t % 1000000000), .int .i64 (t / 1000000000), .pointer none] 36)).drew.cell? ⟨w.heap.size, 2, none⟩ = some (.pointer none) ∧ b < w.heap.size ∧
      w.heap.size < (w.alloc (.cells #[.int .u64 (t % 1000000000), .int .i64 (t / 1000000000), .pointer none] 36)).drew.heap.size ∧
      Below w.heap.size w (w.alloc (.cells #[.int .u64 (t % 1000000000), .int .i64 (t / 1000000000), .pointer none] 36)).drew :=
    ⟨hc, by simp [go_sem], by simp [go_sem], by simp [go_sem], hlt, by simp, ((Below.refl _ _).alloc (Nat.le_refl _) _).drew⟩
  go_region_held3 (fun W => (∀ j, W.cell? ⟨b, j, none⟩ = (aCells m v k lat)[j]?) ∧ W.cell? ⟨w.heap.size, 0, none⟩ = some (.int .u64 (t % 1000000000)) ∧ W.cell? ⟨w.heap.size, 1, none⟩ = some (.int .i64 (t / 1000000000)) ∧ W.cell? ⟨w.heap.size, 2, none⟩ = some (.pointer none) ∧ b < w.heap.size ∧ w.heap.size < W.heap.size ∧ Below w.heap.size w W)
    (first | with_reducible exact keepE (by assumption) (by assumption) | with_reducible exact start)
    (first | (go_at_call 41; refine (hs _ ha1 ha2 ht1 ht2).mono ?_; rintro r w1 ⟨rfl, hb⟩))
  obtain ⟨_, _, _, _, _, _, hB⟩ := (by assumption : (∀ j, _ = (aCells m v k lat)[j]?) ∧ _ ∧ _ ∧ _ ∧ _ ∧ _ ∧ Below w.heap.size w _)
  go_wp2_with fail
  go_ret
  rw [ho.out]
  exact ⟨rfl, hB⟩

end Go.Proofs.Qxb6603484a
