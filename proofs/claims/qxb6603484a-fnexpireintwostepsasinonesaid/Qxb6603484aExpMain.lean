/-
  THE WALK of FnExpireInTwoStepsAsInOne.
-/
import Derived.Test.Qxb6603484aBoth
namespace Go.Proofs.Qxb6603484a
open Go.RowKit
set_option linter.unusedVariables false

set_option maxHeartbeats 2000000 in
theorem expire_main (l1 l2 kk : Int) (p : Option Addr) (n cap : Nat) (F : Nat → WD) (W : World) (h1 : -9223372036854775808 ≤ l1) (h2 : l1 ≤ 9223372036854775807) (h3 : -9223372036854775808 ≤ l2) (h4 : l2 ≤ 9223372036854775807)
    (hmax : n ≤ 9223372036854775807) (hno : p = none → n = 0 ∧ cap = 0) (hr : WRow W p n F) (ht : Tms n F) :
    Calls Try.prog 4 #[.int .i64 l1, .int .i64 l2, .slice p n cap, .int .i64 kk] W fun r w' => r = .returned (.bool true) ∧ Below W.heap.size W w' := by
  go_enter Try.func4, Try.ntmps4
  go_wp2_with fail
  refine (zzBytesE_any l1 l2 kk p n cap _ hmax).mono ?_
  rintro r w0 ⟨rfl, e0⟩
  subst e0
  by_cases hn1 : n ≤ 1048576
  rotate_left
  · have e1 : decide (n ≤ 1048576) = false := by simpa using hn1
    go_wp2_with fail
    go_ret
    exact ⟨rfl, Below.refl _ _⟩
  have e1 : decide (n ≤ 1048576) = true := by simpa using hn1
  by_cases hn : n ≤ 32768
  rotate_left
  · have e2 : decide ((32768 : Int) < (n : Int)) = true := by simp; omega
    go_wp2_with fail
    go_ret
    exact ⟨rfl, Below.refl _ _⟩
  have e2 : decide ((32768 : Int) < (n : Int)) = false := by simp; omega
  by_cases hl : l1 ≤ l2
  rotate_left
  · have e3 : decide (l2 < l1) = true := by simp; omega
    go_wp2_with fail
    go_ret
    exact ⟨rfl, Below.refl _ _⟩
  have e3 : decide (l2 < l1) = false := by simp; omega
  go_wp2_with fail
  refine (reachable_any l1 kk p n cap F _ hr hn).mono ?_
  rintro r w1 ⟨⟨c, rfl, hc⟩, hb1⟩
  cases c
  · go_wp2_with fail
    go_ret
    exact ⟨rfl, hb1⟩
  obtain ⟨hk0, hkn⟩ := hc rfl
  obtain ⟨k, rfl⟩ : ∃ k : Nat, kk = (k : Int) := ⟨kk.toNat, by omega⟩
  have hk : k ≤ n := by omega
  clear hc
  go_wp2_with fail
  refine (cloneW_any p n cap F w1 hn hno (wRow_later hb1 hr)).mono ?_
  rintro r w2 ⟨pw, rfl, hr2, hpw, hb2⟩
  go_wp2_with fail
  refine (buildS_any l1 pw n n k F w2 h1 h2 hr2 ht hk hn).mono ?_
  rintro r w3 ⟨A, pA, cA, rfl, sA, a1, a2, a3, a4, hb3⟩
  go_wp2_with fail
  refine (buildS_any l2 pw n n k F w3 h3 h4 (wRow_later hb3 hr2) ht hk hn).mono ?_
  rintro r w4 ⟨B, pB, cB, rfl, sB, q1, q2, q3, q4, hb4⟩
  have X : Both w0 w4 w2.heap.size w3.heap.size A w2.heap.size pA cA B w3.heap.size pB cB pw n F n k l1 k n k l2 k := by
    have z1 := hb1.size
    have z2 := hb2.size
    have z3 := hb3.size
    have b2 : Below w0.heap.size w0 w2 := hb1.trans (hb2.mono z1)
    have b3 : Below w0.heap.size w0 w3 := b2.trans (hb3.mono (by omega))
    have hp : n = 0 ∨ ∀ x, pw = some x → x.block < w2.heap.size := by
      rcases hr2 with h | ⟨bb, off, e, ha⟩
      · exact .inl h
      · by_cases h0 : n = 0
        · exact .inl h0
        · subst e
          refine .inr fun x hx => ?_
          cases hx
          exact World.block_lt_of_cell? w2 _ (ha 0 (by omega)).1
    exact ⟨sA.later hb4, sB, wRow_later hb4 (wRow_later hb3 hr2), ⟨by omega, a1, a2, Nat.le_refl _, a4, a3, q1, Nat.le_refl _, fun q hq => (q3 q hq).1, hp⟩, b3.trans (hb4.mono (by omega))⟩
  clear sA sB a1 a2 a3 a4 q1 q2 q3 q4 hr hr2 hpw hb1 hb2 hb3 hb4 hno hmax
  generalize w2.heap.size = b1 at X
  generalize w3.heap.size = b2 at X
  go_wp2_with fail
  refine (exp20_any _ _ _ _ _ _ _ _ _ _ _ _ X.a ht hn h1 h2).mono ?_
  rintro r w5 ⟨rfl, nA, kA, cmp1, s5, ap5⟩
  have X5 := X.stepA (ap5.mono (fun q h => by rwa [own_slice] at h)) s5
  clear X s5 ap5
  go_wp2_with fail
  refine (firstLive_any l1 pw n n k F w5 h1 h2 X5.row ht hk (by omega)).mono ?_
  rintro r w6 ⟨rfl, e⟩
  rw [e]
  clear e
  go_wp2_with fail
  refine (liveIs_any _ _ _ _ _ _ _ _ _ _ _ _ X5.a ht hn pw n X5.row).mono ?_
  rintro r w6 ⟨rfl, hb6⟩
  have X6 := X5.later hb6
  clear X5 hb6
  go_wp2_with fail
  refine (compact_any _ _ _ _ _ _ _ _ X6.a.blk cmp1 (by have := X6.a.len; omega)).mono ?_
  rintro r w7 ⟨rfl, e⟩
  rw [e]
  clear e
  go_wp2_with fail
  refine (restIs_any _ _ _ _ _ _ X6.a.blk X6.a.map h1 h2).mono ?_
  rintro r w8 ⟨rfl, hb8⟩
  have X8 := X6.later hb8
  clear X6 hb8 cmp1
  go_wp2_with fail
  refine (setLatest_any _ _ _ _ _ l2 _ X8.a.blk h3 h4).mono ?_
  rintro r w9 ⟨rfl, B9, A9⟩
  have X9 := X8.stepA (A9.mono (fun q h => .inl h)) (X8.a.latest B9 A9)
  clear X8 B9 A9
  go_wp2_with fail
  refine (exp20_any _ _ _ _ _ _ _ _ _ _ _ _ X9.a ht hn h3 h4).mono ?_
  rintro r w10 ⟨rfl, nA', kA', cmpA, s10, ap10⟩
  rw [fl_two l1 l2 hl F n (n - k) k rfl] at s10
  have X10 := X9.stepA (ap10.mono (fun q h => by rwa [own_slice] at h)) s10
  clear X9 s10 ap10
  go_wp2_with fail
  refine (exp20_any _ _ _ _ _ _ _ _ _ _ _ _ X10.b ht hn h3 h4).mono ?_
  rintro r w11 ⟨rfl, nB, kB, cmpB, s11, ap11⟩
  have X11 := X10.stepB (ap11.mono (fun q h => by rwa [own_slice] at h)) s11
  clear X10 s11 ap11
  go_wp2_with fail
  refine (firstLive_any l2 pw n n k F w11 h3 h4 X11.row ht hk (by omega)).mono ?_
  rintro r w12 ⟨rfl, e⟩
  rw [e]
  clear e
  go_wp2_with fail
  refine (liveIs_any _ _ _ _ _ _ _ _ _ _ _ _ X11.a ht hn pw n X11.row).mono ?_
  rintro r w12 ⟨rfl, hb12⟩
  have X12 := X11.later hb12
  clear X11 hb12
  go_wp2_with fail
  refine (liveIs_any _ _ _ _ _ _ _ _ _ _ _ _ X12.b ht hn pw n X12.row).mono ?_
  rintro r w13 ⟨rfl, hb13⟩
  have X13 := X12.later hb13
  clear X12 hb13
  go_wp2_with fail
  refine (compact_any _ _ _ _ _ _ _ _ X13.a.blk cmpA (by have := X13.a.len; omega)).mono ?_
  rintro r w14 ⟨rfl, e⟩
  rw [e]
  clear e
  go_wp2_with fail
  refine (compact_any _ _ _ _ _ _ _ _ X13.b.blk cmpB (by have := X13.b.len; omega)).mono ?_
  rintro r w14 ⟨rfl, e⟩
  rw [e]
  clear e
  go_wp2_with fail
  refine (restIs_any _ _ _ _ _ _ X13.a.blk X13.a.map h3 h4).mono ?_
  rintro r w14 ⟨rfl, hb14⟩
  have X14 := X13.later hb14
  clear X13 hb14
  go_wp2_with fail
  refine (restIs_any _ _ _ _ _ _ X14.b.blk X14.b.map h3 h4).mono ?_
  rintro r w15 ⟨rfl, hb15⟩
  have X15 := X14.later hb15
  clear X14 hb15
  go_wp2_with fail
  go_ret
  exact ⟨rfl, X15.bel⟩

end Go.Proofs.Qxb6603484a
