/-
  THE WALKS of NewAssembler, ZZwaiterAt, waiterIs, ZZpushWaiter.
-/
import Derived.Test.Qxb6603484aAsm
import Derived.Deep.AppendLies
import Derived.Deep.RegionLaw
namespace Go.Proofs.Qxb6603484a
open Go.RowKit
set_option linter.unusedVariables false

theorem built85 (m : Nat) : Try.prog.built 85 [(0, .nilFunc), (1, .map (some m))] = some (aCells m (.slice none 0 0) 0 0) := by kernel_rfl

theorem newAssembler_any (w : World) :
    Calls Try.prog 29 #[.nilFunc] w fun r w' => r = .returned (.pointer (some ⟨w.heap.size + 1, 0, none⟩)) ∧ Blk w' (w.heap.size + 1) (aCells w.heap.size (.slice none 0 0) 0 0) 85 ∧ w'.heap[w.heap.size]? = some (.map #[] 0) ∧ w'.heap.size = w.heap.size + 2 ∧ Below w.heap.size w w' := by
  have hmm := @run_makeMap Try.prog
  go_enter Try.func29, Try.ntmps29
  go_wp2_with fail
  go_ret
  refine ⟨rfl, ?_, ?_, by simp, below2 _ _ _⟩
  · have := Blk.new (w.alloc (.map #[] 0)) (aCells w.heap.size (.slice none 0 0) 0 0) 85
    simpa [aCells] using this
  · exact (Below.heap_alloc (w.alloc (.map #[] 0)) _ _ (by simp)).trans (heap_alloc_new w _)

theorem keepB {w : World} {B N : Nat} {C : Array Value} {W w1 : World} (h : (∀ j, W.cell? ⟨B, j, none⟩ = C[j]?) ∧ B < W.heap.size ∧ N ≤ W.heap.size ∧ Below N w W) (hb : Below W.heap.size W w1) :
    (∀ j, w1.cell? ⟨B, j, none⟩ = C[j]?) ∧ B < w1.heap.size ∧ N ≤ w1.heap.size ∧ Below N w w1 := by
  obtain ⟨h1, h2, h3, h4⟩ := h
  obtain ⟨hc, _⟩ := bcell hb
  have := hb.size
  exact ⟨fun j => by rw [hc B j h2]; exact h1 j, by omega, by omega, h4.trans (hb.mono h3)⟩
/-- A name, as a struct of its own. -/
def WD.arr (d : WD) : Array Value := d.cells.toArray
theorem WD.arr_set (d : WD) (a b c e f g : Value) : ((((((#[a, b, c, e, f, g] : Array Value).setIfInBounds 0 (.int .u64 (d.t % 1000000000))).setIfInBounds 1 (.int .i64 (d.t / 1000000000))).setIfInBounds 2 (.pointer none)).setIfInBounds 3 (.int .u16 d.cic)).setIfInBounds 4 (.int .u32 d.lo)).setIfInBounds 5 (.int .u32 d.hi) = d.arr := rfl

set_option maxHeartbeats 1000000 in
theorem waiterAt_any (b m g n cap i : Nat) (k lat : Int) (d : WD) (w : World) (h : Blk w b (aCells m (.slice (some ⟨g, 0, none⟩) n cap) k lat) 85) (hi : i < n) (hd : ∀ q, q < 6 → w.cell? ⟨g, i * 6 + q, none⟩ = d.cells[q]?)
    (ht1 : -9223372036854775808 ≤ d.t) (ht2 : d.t ≤ 9223372036854775807) (hn : n ≤ 32768) (hg : g < w.heap.size) :
    Calls Try.prog 45 #[.pointer (some ⟨b, 0, none⟩), .int .i64 i] w fun r w' => r = .returned (.tuple #[.int .i64 d.t, .int .u16 d.cic, .int .u32 d.lo, .int .u32 d.hi]) ∧ Below w.heap.size w w' := by
  have c := h.cell
  have c2 := aC2 m (.slice (some ⟨g, 0, none⟩) n cap) k lat
  have d0 : w.cell? ⟨g, i * 6 + 0, none⟩ = _ := hd 0 (by omega)
  have d1 : w.cell? ⟨g, i * 6 + 1, none⟩ = _ := hd 1 (by omega)
  have d2 : w.cell? ⟨g, i * 6 + 2, none⟩ = _ := hd 2 (by omega)
  have d3 : w.cell? ⟨g, i * 6 + 3, none⟩ = _ := hd 3 (by omega)
  have d4 : w.cell? ⟨g, i * 6 + 4, none⟩ = _ := hd 4 (by omega)
  have d5 : w.cell? ⟨g, i * 6 + 5, none⟩ = _ := hd 5 (by omega)
  simp [WD.cells] at d0 d1 d2 d3 d4 d5
  clear hd
  have e0 : d.arr[0]? = some (.int .u64 (d.t % 1000000000)) := rfl
  have e1 : d.arr[1]? = some (.int .i64 (d.t / 1000000000)) := rfl
  have e2 : d.arr[2]? = some (.pointer none) := rfl
  have e3 : d.arr[3]? = some (.int .u16 d.cic) := rfl
  have e4 : d.arr[4]? = some (.int .u32 d.lo) := rfl
  have e5 : d.arr[5]? = some (.int .u32 d.hi) := rfl
  have hz := zzns_any d.t
  unfold tT tv at hz
  have start : (∀ j, (w.alloc (.cells #[.int .u64 (d.t % 1000000000), .int .i64 (d.t / 1000000000), .pointer none, .int .u16 d.cic, .int .u32 d.lo, .int .u32 d.hi] 90)).drew.cell? ⟨w.heap.size, j, none⟩ = d.arr[j]?) ∧
      w.heap.size < (w.alloc (.cells #[.int .u64 (d.t % 1000000000), .int .i64 (d.t / 1000000000), .pointer none, .int .u16 d.cic, .int .u32 d.lo, .int .u32 d.hi] 90)).drew.heap.size ∧
      w.heap.size ≤ (w.alloc (.cells #[.int .u64 (d.t % 1000000000), .int .i64 (d.t / 1000000000), .pointer none, .int .u16 d.cic, .int .u32 d.lo, .int .u32 d.hi] 90)).drew.heap.size ∧
      Below w.heap.size w (w.alloc (.cells #[.int .u64 (d.t % 1000000000), .int .i64 (d.t / 1000000000), .pointer none, .int .u16 d.cic, .int .u32 d.lo, .int .u32 d.hi] 90)).drew :=
    ⟨(Blk.new w d.arr 90).drew.cell, (Blk.new w d.arr 90).drew.lt, Nat.le_of_lt (Blk.new w d.arr 90).drew.lt, ((Below.refl _ _).alloc (Nat.le_refl _) _).drew⟩
  have HS : Hid (_ ∧ _) := start
  clear start
  go_enter Try.func45, Try.ntmps45
  go_wp2_with fail
  have start := HS.out
  clear HS d0 d1 d2 d3 d4 d5
  go_region_held3 (fun W => (∀ j, W.cell? ⟨w.heap.size, j, none⟩ = d.arr[j]?) ∧ w.heap.size < W.heap.size ∧ w.heap.size ≤ W.heap.size ∧ Below w.heap.size w W)
    (first | with_reducible exact keepB (by assumption) (by assumption) | with_reducible exact start)
    (first | (go_at_call 28; refine (hz _ ht1 ht2).mono ?_; rintro r w1 ⟨rfl, hb⟩))
  obtain ⟨_, _, _, hB⟩ := (by assumption : (∀ j, _ = d.arr[j]?) ∧ _ ∧ _ ∧ Below w.heap.size w _)
  go_wp2_with fail
  exact bodyPost_ret (v := .tuple #[.int .i64 d.t, .int .u16 d.cic, .int .u32 d.lo, .int .u32 d.hi]) (by simp [results, Try.results45, go_sem]) rfl ⟨rfl, hB⟩

set_option maxHeartbeats 1000000 in
theorem waiterIs_any (b m g n cap i : Nat) (k lat : Int) (d : WD) (w : World) (h : Blk w b (aCells m (.slice (some ⟨g, 0, none⟩) n cap) k lat) 85) (hi : i < n) (hd : ∀ q, q < 6 → w.cell? ⟨g, i * 6 + q, none⟩ = d.cells[q]?)
    (ht1 : -9223372036854775808 ≤ d.t) (ht2 : d.t ≤ 9223372036854775807) (hn : n ≤ 32768) (hg : g < w.heap.size) :
    Calls Try.prog 36 #[.pointer (some ⟨b, 0, none⟩), .int .i64 i, .agg #[.int .i64 d.t, .int .u16 d.cic, .int .u32 d.lo, .int .u32 d.hi]] w fun r w' => r = .returned (.bool true) ∧ Below w.heap.size w w' := by
  have hw := waiterAt_any b m g n cap i k lat d (w.alloc (.cells #[.int .i64 d.t, .int .u16 d.cic, .int .u32 d.lo, .int .u32 d.hi] 69)) (h.alloc _) hi
    (fun q hq => ((Below.refl _ w).alloc (Nat.le_refl _) _ |>.cell (p := ⟨g, i * 6 + q, none⟩) hg).trans (hd q hq)) ht1 ht2 hn (by simp; omega)
  go_enter Try.func36, Try.ntmps36
  go_wp2_with fail
  refine hw.mono ?_
  rintro r w1 ⟨rfl, hb⟩
  obtain ⟨hc, _⟩ := bcell hb
  go_wp2_with fail
  go_ret
  exact ⟨rfl, ((Below.refl _ _).alloc (Nat.le_refl _) _).trans (hb.mono (by simp))⟩

theorem own_ne {w : World} {base b : Nat} {v : Value} {n : Nat} {xs : List Value} {C : Array Value} (hown : w.ownsRow base 90 6 v n xs) (h : Blk w b C 85) : v.ownBlock ≠ some b := by
  intro e
  rcases hown.2 with ⟨rfl, _⟩ | ⟨g, cap, cur, rfl, _, hg, _⟩
  · simp [Value.ownBlock] at e
  · simp [Value.ownBlock] at e
    subst e
    have := hg.symm.trans h
    simp at this
theorem own_below {w w1 : World} {base : Nat} {v : Value} {n : Nat} {xs : List Value} (hown : w.ownsRow base 90 6 v n xs) (hb : Below w.heap.size w w1) : w1.ownsRow base 90 6 v n xs :=
  hown.kept (row := none) ⟨hb.os, hb.tape, hb.output, hb.size, fun k hk _ => hb.block k hk⟩ (by cases v.ownBlock <;> simp)
theorem push_blk {w w1 w2 : World} {base b : Nat} {v : Value} {n : Nat} {xs : List Value} {C : Array Value} (h : Blk w b C 85) (hown : w.ownsRow base 90 6 v n xs) (hb : Below w.drew.heap.size w.drew w1) (o : Obj) (hgrow : (w1.alloc o).grownBy w2 v.ownBlock) : Blk w2 b C 85 := by
  have h1 := (h.drew.later hb).alloc o
  exact (hgrow.block b h1.lt (own_ne hown h).symm).trans h1
theorem grown_setCell (w : World) (b j : Nat) (u : Value) : w.grownBy (w.setCell ⟨b, j, none⟩ u) (some b) :=
  ⟨rfl, rfl, rfl, by simp [World.setCell], fun k hk hne => Below.heap_setCell w ⟨b, j, none⟩ u k (fun e => hne (by rw [e]))⟩
theorem push_end {w w1 w2 : World} {base b m g cap : Nat} {v : Value} {n : Nat} {xs ys : List Value} {k lat : Int} (h : Blk w b (aCells m v k lat) 85) (hown : w.ownsRow base 90 6 v n xs) (hb : Below w.drew.heap.size w.drew w1) (o : Obj)
    (hgrow : (w1.alloc o).grownBy w2 v.ownBlock) (hB2 : Blk w2 b (aCells m v k lat) 85) (hown2 : w2.ownsRow base 90 6 (.slice (some ⟨g, 0, none⟩) (n + 1) cap) (n + 1) ys) (hat : v.ownBlock = some g ∨ g = (w1.alloc o).heap.size) :
    Blk (w2.setCell ⟨b, 2, none⟩ (.slice (some ⟨g, 0, none⟩) (n + 1) cap)) b (aCells m (.slice (some ⟨g, 0, none⟩) (n + 1) cap) k lat) 85 ∧
      (w2.setCell ⟨b, 2, none⟩ (.slice (some ⟨g, 0, none⟩) (n + 1) cap)).ownsRow base 90 6 (.slice (some ⟨g, 0, none⟩) (n + 1) cap) (n + 1) ys ∧
      Apart (fun k => k = b ∨ v.ownBlock = some k) w (w2.setCell ⟨b, 2, none⟩ (.slice (some ⟨g, 0, none⟩) (n + 1) cap)) ∧ (v.ownBlock = some g ∨ w.heap.size ≤ g) := by
  have hs := hb.size
  refine ⟨hB2.setCell 2 _, hown2.kept (grown_setCell w2 b 2 _) (.inr (own_ne hown2 hB2)), ?_, hat.imp id (fun e => by rw [e]; simp at hs ⊢; omega)⟩
  have a1 : Apart (fun k => k = b ∨ v.ownBlock = some k) w w2 := by
    refine (Apart.trans (w := w1) ⟨hb.os, hb.tape, hb.output, hb.size, fun k hk _ => hb.block k hk⟩ ?_)
    refine Apart.trans (Apart.of_below ((Below.refl _ _).alloc (Nat.le_refl _) o)) ?_
    exact ⟨hgrow.os, hgrow.tape, hgrow.output, hgrow.size, fun k hk hn => hgrow.block k hk (fun e => hn (.inr e.symm))⟩
  exact a1.setCell b 2 _ (.inl rfl)

theorem Try.info90 : (Try.prog.info? 90).map (fun i => (i.zero, i.size, i.bytes)) = some (some (.agg #[.int .u64 0, .int .i64 0, .pointer none, .int .u16 0, .int .u32 0, .int .u32 0]), 6, 40) := by kernel_rfl


end Go.Proofs.Qxb6603484a
