/-
  THE WALK of buildAssembler.
-/
import Derived.Test.Qxb6603484aClone
namespace Go.Proofs.Qxb6603484a
open Go.RowKit
set_option linter.unusedVariables false

/-- The cells xs hold the first n names. -/
def Names (xs : List Value) (n : Nat) (f : Nat → WD) : Prop := ∀ i, i < n → ∀ q, q < 6 → xs[i * 6 + q]? = (f i).cells[q]?
theorem names_push {xs : List Value} {n : Nat} {f : Nat → WD} (hl : xs.length = n * 6) (h : Names xs n f) : Names (xs ++ (f n).cells) (n + 1) f := by
  intro i hi q hq
  by_cases e : i = n
  · subst e
    rw [List.getElem?_append_right (by omega)]
    congr 1
    omega
  · rw [List.getElem?_append_left (by omega)]
    exact h i (by omega) q hq

theorem keepS {w W w1 : World} {H b o0 o1 o2 o3 : Nat} {v0 v1 v2 v3 : Value} (h : Below H w W ∧ H ≤ W.heap.size ∧ (b < H ∧ b < H ∧ b < H ∧ b < H) ∧ W.cell? ⟨b, o0, none⟩ = some v0 ∧ W.cell? ⟨b, o1, none⟩ = some v1 ∧ W.cell? ⟨b, o2, none⟩ = some v2 ∧ W.cell? ⟨b, o3, none⟩ = some v3)
    (hb : Below H W w1) :
    Below H w w1 ∧ H ≤ w1.heap.size ∧ (b < H ∧ b < H ∧ b < H ∧ b < H) ∧ w1.cell? ⟨b, o0, none⟩ = some v0 ∧ w1.cell? ⟨b, o1, none⟩ = some v1 ∧ w1.cell? ⟨b, o2, none⟩ = some v2 ∧ w1.cell? ⟨b, o3, none⟩ = some v3 := by
  obtain ⟨h1, h2, ⟨k0, k1, k2, k3⟩, c0, c1, c2, c3⟩ := h
  exact ⟨h1.trans hb, by have := hb.size; omega, ⟨k0, k1, k2, k3⟩, (hb.cell k0).trans c0, (hb.cell k1).trans c1, (hb.cell k2).trans c2, (hb.cell k3).trans c3⟩

/-- The Assembler while it is built. -/
def Made (w wr : World) (lat : Int) (j : Nat) (f : Nat → WD) (k : Int) : Prop := ∃ (p : Option Addr) (cap : Nat) (xs : List Value), Blk wr (w.heap.size + 1) (aCells w.heap.size (.slice p j cap) k lat) 85 ∧ wr.heap[w.heap.size]? = some (.map #[] 0) ∧
  wr.ownsRow w.heap.size 90 6 (.slice p j cap) j xs ∧ Names xs j f ∧ Below w.heap.size w wr

theorem made_step {w wr w1 : World} {lat k : Int} {j g cap : Nat} {f : Nat → WD} {v : Value} {xs : List Value} (hm : wr.heap[w.heap.size]? = some (.map #[] 0)) (hown : wr.ownsRow w.heap.size 90 6 v j xs) (hx : Names xs j f) (hb : Below w.heap.size w wr)
    (h1 : Blk w1 (w.heap.size + 1) (aCells w.heap.size (.slice (some ⟨g, 0, none⟩) (j + 1) cap) k lat) 85) (h2 : w1.ownsRow w.heap.size 90 6 (.slice (some ⟨g, 0, none⟩) (j + 1) cap) (j + 1) (xs ++ (f j).cells))
    (h3 : Apart (fun k => k = w.heap.size + 1 ∨ v.ownBlock = some k) wr.drew w1) : Made w w1 lat (j + 1) f k ∧ Below w.heap.size wr.drew w1 := by
  have hlt : w.heap.size < wr.heap.size := (Array.getElem?_eq_some_iff.mp hm).1
  have hB : Below w.heap.size wr.drew w1 := h3.below (Nat.le_of_lt hlt) (fun k hk hS => by
    rcases hS with e | e
    · omega
    · have := (hown.lt k e).1; omega)
  refine ⟨⟨_, _, _, h1, ?_, h2, names_push hown.1 hx, hb.drew.trans hB⟩, hB⟩
  refine (h3.block w.heap.size hlt (fun hS => ?_)).trans hm
  rcases hS with e | e
  · omega
  · rcases hown.2 with ⟨rfl, _⟩ | ⟨g', cap', cur, rfl, _, hg, _⟩
    · simp [Value.ownBlock] at e
    · simp [Value.ownBlock] at e
      subst e
      have := hg.symm.trans hm
      simp at this

set_option maxHeartbeats 1000000 in
theorem build_any (lat : Int) (p : Option Addr) (n cap k : Nat) (f : Nat → WD) (w : World) (h1 : -9223372036854775808 ≤ lat) (h2 : lat ≤ 9223372036854775807) (hr : WRow w p n f) (ht : Tms n f) (hk : k ≤ n) (hn : n ≤ 32768) :
    Calls Try.prog 19 #[.int .i64 lat, .slice p n cap, .int .i64 k] w fun r w' => r = .returned (.pointer (some ⟨w.heap.size + 1, 0, none⟩)) ∧ Made w w' lat n f k := by
  go_enter Try.func19, Try.ntmps19
  go_wp2_with fail
  refine (newAssembler_any _).mono ?_
  rintro r w1 ⟨rfl, hB, hM, hs, hb⟩
  go_wp2_with fail
  refine (setLatest_any _ _ _ _ _ lat _ hB h1 h2).mono ?_
  rintro r w2 ⟨rfl, hB2, hA2⟩
  have M0 : Made w w2 lat 0 f 0 := ⟨none, 0, [], hB2, (hA2.block _ (by omega) (by omega)).trans hM, World.ownsRow_nil _ _ _ _, fun i hi => by omega, hb.trans (hA2.below (by omega) (fun k hk => by omega))⟩
  clear hB hM hs hb hB2 hA2
  go_wp2_with fail
  go_loopw [8] (fun t wr => ∃ j : Nat, j ≤ n ∧ t = .int .i64 j ∧ Made w wr lat j f 0) (fun t _ => n - (intOf t).toNat)
  case atStart => exact ⟨0, Nat.zero_le _, rfl, M0⟩
  case round =>
    obtain ⟨j, hj, rfl, q, c, xs, mB, mM, mO, mN, mb⟩ := hrel
    by_cases hlt : j < n
    · rcases hr with h | ⟨b, off, e, ha⟩
      · omega
      cases e
      obtain ⟨c0, c1, c2, c3⟩ := ha j hlt
      have hbl : b < w.heap.size := World.block_lt_of_cell? w _ c0
      obtain ⟨d0, d1, d2, d3⟩ := wAt_later mb ha j hlt
      obtain ⟨t1, t2⟩ := ht j hlt
      have start : Below w.heap.size w wr.drew ∧ w.heap.size ≤ wr.drew.heap.size ∧ (b < w.heap.size ∧ b < w.heap.size ∧ b < w.heap.size ∧ b < w.heap.size) ∧ wr.drew.cell? ⟨b, off + j * 4, none⟩ = some (.int .i64 (f j).t) ∧ wr.drew.cell? ⟨b, off + j * 4 + 1, none⟩ = some (.int .u16 (f j).cic) ∧
        wr.drew.cell? ⟨b, off + j * 4 + 2, none⟩ = some (.int .u32 (f j).lo) ∧ wr.drew.cell? ⟨b, off + j * 4 + 3, none⟩ = some (.int .u32 (f j).hi) := ⟨mb.drew, mb.size, ⟨hbl, hbl, hbl, hbl⟩, d0, d1, d2, d3⟩
      have HP := fun W => push_any w.heap.size (w.heap.size + 1) w.heap.size (.slice q j c) j xs 0 lat (f j) W
      clear c0 c1 c2 c3
      have mO' : wr.drew.ownsRow w.heap.size 90 6 (.slice q j c) j xs := mO
      go_wp2_with fail
      go_region_held3 (fun W => Below w.heap.size w W ∧ w.heap.size ≤ W.heap.size ∧ (b < w.heap.size ∧ b < w.heap.size ∧ b < w.heap.size ∧ b < w.heap.size) ∧ W.cell? ⟨b, off + j * 4, none⟩ = some (.int .i64 (f j).t) ∧ W.cell? ⟨b, off + j * 4 + 1, none⟩ = some (.int .u16 (f j).cic) ∧
          W.cell? ⟨b, off + j * 4 + 2, none⟩ = some (.int .u32 (f j).lo) ∧ W.cell? ⟨b, off + j * 4 + 3, none⟩ = some (.int .u32 (f j).hi))
        (first | with_reducible exact start | (exact keepS start hbb))
        (first | (go_at_call 30; refine (HP _ mB.drew mO' (by omega) mb.size t1 t2).mono ?_; rintro r w1 ⟨rfl, g, cap', e1, e2, e3, e4⟩; obtain ⟨hMd, hbb⟩ := made_step mM mO mN mb e1 e2 e3; clear e1 e2 e3 e4))
      go_wp2_with fail
      go_roundw
      case rel => exact ⟨j + 1, by omega, by go_num, hMd⟩
      case measure => simp [intOf]; omega
    · have hjn : j = n := by omega
      subst hjn
      go_wp2_with fail
      refine (setWaited_any _ _ _ _ _ k _ mB).mono ?_
      rintro r w3 ⟨rfl, hB3, hA3⟩
      go_wp2_with fail
      go_ret
      refine ⟨rfl, ?_⟩
      have hlt : w.heap.size < wr.heap.size := (Array.getElem?_eq_some_iff.mp mM).1
      exact ⟨_, _, _, hB3, (hA3.block _ hlt (by omega)).trans mM, mO.kept (row := some (w.heap.size + 1)) ⟨hA3.os, hA3.tape, hA3.output, hA3.size, fun k hk hn => hA3.block k hk (fun e => hn (by rw [e]))⟩ (.inr (own_ne mO mB)), mN, mb.trans (hA3.below (by omega) (fun k hk => by omega))⟩

end Go.Proofs.Qxb6603484a
