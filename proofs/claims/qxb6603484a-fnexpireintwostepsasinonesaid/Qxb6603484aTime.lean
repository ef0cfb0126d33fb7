/-
  THE WALKS of time.Time's methods, at times without a monotonic reading and without a location.
-/
import Derived.Test.Qxb6603484aProg
import Derived.WalkKit
import Derived.WalkSpells
import Derived.WalkLawsBesides
import Derived.Laws.BitsAllLaws
import Derived.Deep.QuietTactic
import Derived.BigQuiet
import Derived.Outline
namespace Go.Proofs.Qxb6603484a
open Go.RowKit
set_option linter.unusedVariables false

/-! ### bits -/
theorem and_low {n : Int} (h0 : 0 ≤ n) (h1 : n < 1073741824) : bits .and .u64 n 1073741823 = n := by
  rw [u64_and n 1073741823 h0 (by omega) (by omega) (by omega)]
  have := Nat.and_two_pow_sub_one_eq_mod n.toNat 30
  have e : ((1073741823 : Int).toNat) = 2 ^ 30 - 1 := rfl
  rw [e, this]
  omega
theorem and_top {n : Int} (h0 : 0 ≤ n) (h1 : n < 9223372036854775808) : bits .and .u64 n 9223372036854775808 = 0 := by
  rw [u64_and n 9223372036854775808 h0 (by omega) (by omega) (by omega)]
  have := nat_bit 63 n.toNat
  have e : ((9223372036854775808 : Int).toNat) = 2 ^ 63 := rfl
  rw [e, this, Nat.div_eq_of_lt (by omega)]
  rfl
theorem and_le {a b : Int} (ha : 0 ≤ a) (ha1 : a < 1073741824) (hb : 0 ≤ b) (hb1 : b < 1073741824) : 0 ≤ bits .and .u64 a b ∧ bits .and .u64 a b < 1073741824 := by
  rw [u64_and a b ha (by omega) hb (by omega)]
  have := @Nat.and_le_left a.toNat b.toNat
  omega
theorem low_clear (x : Nat) (h : x < 1073741824) : x &&& 18446744072635809792 = 0 := by
  apply Nat.eq_of_testBit_eq
  intro i
  rw [Nat.testBit_and]
  by_cases hi : i < 30
  · rw [show 18446744072635809792 = 2 ^ 30 * 17179869183 from rfl, Nat.testBit_two_pow_mul]
    simp; omega
  · rw [Nat.testBit_lt_two_pow (show x < 2 ^ i from Nat.lt_of_lt_of_le (show x < 2 ^ 30 from h) (Nat.pow_le_pow_right (by omega) (by omega)))]
    simp
theorem andNot_low {n : Int} (h0 : 0 ≤ n) (h1 : n < 1073741824) : bits .andNot .u64 n 1073741823 = 0 := by
  rw [u64_andNot n 1073741823 h0 (by omega) (by omega) (by omega)]
  have e : (18446744073709551615 - (1073741823 : Int).toNat) = 18446744072635809792 := rfl
  rw [e, low_clear n.toNat (by omega)]
  rfl
theorem or_zero {n : Int} (h0 : 0 ≤ n) (h1 : n < 1073741824) : bits .or .u64 0 n = n := by
  rw [u64_or 0 n (by omega) (by omega) h0 (by omega)]
  simp; omega

/-- The time s seconds and n nanoseconds after the zero time, as a value. -/
def tv (n s : Int) : Value := .agg #[.int .u64 n, .int .i64 s, .pointer none]

/-- Such a time lies in block B. -/
def TAt (w : World) (B : Nat) (n s : Int) : Prop := w.cell? ⟨B, 0, none⟩ = some (.int .u64 n) ∧ w.cell? ⟨B, 1, none⟩ = some (.int .i64 s) ∧ w.cell? ⟨B, 2, none⟩ = some (.pointer none)

theorem nsec_any (B : Nat) (n : Int) (w : World) (h0 : 0 ≤ n) (h1 : n < 1000000000) (hc : w.cell? ⟨B, 0, none⟩ = some (.int .u64 n)) :
    Calls Try.prog 47 #[.pointer (some ⟨B, 0, none⟩)] w fun r w' => r = .returned (.int .i32 n) ∧ w' = w := by
  have e := and_low h0 (by omega)
  go_enter Try.func47, Try.ntmps47
  go_wp2
  go_ret
  exact ⟨rfl, rfl⟩

theorem sec_any (B : Nat) (n s : Int) (w : World) (h0 : 0 ≤ n) (h1 : n < 1000000000) (hc : w.cell? ⟨B, 0, none⟩ = some (.int .u64 n)) (hs : w.cell? ⟨B, 1, none⟩ = some (.int .i64 s)) :
    Calls Try.prog 51 #[.pointer (some ⟨B, 0, none⟩)] w fun r w' => r = .returned (.int .i64 s) ∧ w' = w := by
  have e := and_top h0 (by omega)
  go_enter Try.func51, Try.ntmps51
  go_wp2
  go_ret
  exact ⟨rfl, rfl⟩

theorem below2 (w : World) (a b : Obj) : Below w.heap.size w ((w.alloc a).alloc b) := ((Below.refl _ _).alloc (Nat.le_refl _) _).alloc (by simp) _

theorem addSec_any (B : Nat) (n s d : Int) (w : World) (h0 : 0 ≤ n) (h1 : n < 1000000000) (hs1 : -1152921504606846976 ≤ s) (hs2 : s ≤ 1152921504606846976) (hd1 : -1152921504606846976 ≤ d) (hd2 : d ≤ 1152921504606846976)
    (hc : w.cell? ⟨B, 0, none⟩ = some (.int .u64 n)) (hs : w.cell? ⟨B, 1, none⟩ = some (.int .i64 s)) (hf : w.frozen? ⟨B, 1, none⟩ = false) :
    Calls Try.prog 48 #[.pointer (some ⟨B, 0, none⟩), .int .i64 d] w fun r w' => r = .returned (.tuple #[]) ∧ w' = w.setCell ⟨B, 1, none⟩ (.int .i64 (s + d)) := by
  have e := and_top h0 (by omega)
  by_cases hd : 0 < d
  · have q1 : decide (s < s + d) = true := by simp; omega
    have q2 : decide (0 < d) = true := by simpa using hd
    go_enter Try.func48, Try.ntmps48
    go_wp2
    go_end0
    exact ⟨rfl, rfl⟩
  · have q1 : decide (s < s + d) = false := by simp; omega
    have q2 : decide (0 < d) = false := by simpa using hd
    go_enter Try.func48, Try.ntmps48
    go_wp2
    go_end0
    exact ⟨rfl, rfl⟩

theorem tdm (d : Int) : d = d.tdiv 1000000000 * 1000000000 + d.tmod 1000000000 ∧ (0 ≤ d → 0 ≤ d.tmod 1000000000 ∧ d.tmod 1000000000 < 1000000000) ∧ (d < 0 → -1000000000 < d.tmod 1000000000 ∧ d.tmod 1000000000 ≤ 0) := by
  refine ⟨by have := Int.mul_tdiv_add_tmod d 1000000000; omega, fun h => ?_, fun h => ?_⟩
  · exact ⟨Int.tmod_nonneg _ h, Int.tmod_lt_of_pos _ (by omega)⟩
  · obtain ⟨e, rfl⟩ : ∃ e, d = -e := ⟨-d, by omega⟩
    rw [Int.neg_tmod]
    have h1 := Int.tmod_nonneg (a := e) 1000000000 (by omega)
    have h2 := Int.tmod_lt_of_pos e (b := 1000000000) (by omega)
    omega

set_option maxHeartbeats 1000000 in
theorem add_any (n s d : Int) (w : World) (h0 : 0 ≤ n) (h1 : n < 1000000000) (hs1 : -576460752303423488 ≤ s) (hs2 : s ≤ 576460752303423488) (hd1 : -9223372036854775808 ≤ d) (hd2 : d ≤ 9223372036854775807) :
    Calls Try.prog 40 #[tv n s, .int .i64 d] w fun r w' => r = .returned (tv ((n + d) % 1000000000) (s + (n + d) / 1000000000)) ∧ Below w.heap.size w w' := by
  obtain ⟨t1, t2, t3⟩ := tdm d
  have b1 : -9223372037 ≤ d.tdiv 1000000000 := by omega
  have b2 : d.tdiv 1000000000 ≤ 9223372037 := by omega
  have T : Hid (d = d.tdiv 1000000000 * 1000000000 + d.tmod 1000000000) := t1
  have b3 : -1000000000 < d.tmod 1000000000 := by omega
  have b4 : d.tmod 1000000000 < 1000000000 := by omega
  clear t1 t2 t3
  unfold tv
  have e1 := andNot_low h0 (by omega : n < 1073741824)
  by_cases c1 : 1000000000 ≤ n + d.tmod 1000000000
  · have e2 := or_zero (n := n + d.tmod 1000000000 - 1000000000) (by omega) (by omega)
    have e3 := and_top (n := n + d.tmod 1000000000 - 1000000000) (by omega) (by omega)
    go_enter Try.func40, Try.ntmps40
    go_wp2_with (first
      | (go_at_call 47; refine (nsec_any _ n _ h0 h1 (by simp)).mono ?_; rintro r w' ⟨rfl, rfl⟩))
    refine (addSec_any w.heap.size (n + d.tmod 1000000000 - 1000000000) s _ _ (by omega) (by omega) (by omega) (by omega) (by omega) (by omega) (by simp) (by simp) (by simp)).mono ?_
    rintro r w' ⟨rfl, rfl⟩
    go_wp2_with fail
    refine bodyPost_ret (v := .agg #[.int .u64 (n + d.tmod 1000000000 - 1000000000), .int .i64 (s + (d.tdiv 1000000000 + 1)), .pointer none]) (by simp [results, Try.results40, go_sem]) rfl ⟨?_, below2 _ _ _⟩
    rw [show (n + d) % 1000000000 = n + d.tmod 1000000000 - 1000000000 from by have := T.out; omega, show (n + d) / 1000000000 = d.tdiv 1000000000 + 1 from by have := T.out; omega]
  · by_cases c2 : n + d.tmod 1000000000 < 0
    · have e2 := or_zero (n := n + d.tmod 1000000000 + 1000000000) (by omega) (by omega)
      have e3 := and_top (n := n + d.tmod 1000000000 + 1000000000) (by omega) (by omega)
      go_enter Try.func40, Try.ntmps40
      go_wp2_with (first
        | (go_at_call 47; refine (nsec_any _ n _ h0 h1 (by simp)).mono ?_; rintro r w' ⟨rfl, rfl⟩))
      refine (addSec_any w.heap.size (n + d.tmod 1000000000 + 1000000000) s _ _ (by omega) (by omega) (by omega) (by omega) (by omega) (by omega) (by simp) (by simp) (by simp)).mono ?_
      rintro r w' ⟨rfl, rfl⟩
      go_wp2_with fail
      refine bodyPost_ret (v := .agg #[.int .u64 (n + d.tmod 1000000000 + 1000000000), .int .i64 (s + (d.tdiv 1000000000 - 1)), .pointer none]) (by simp [results, Try.results40, go_sem]) rfl ⟨?_, below2 _ _ _⟩
      rw [show (n + d) % 1000000000 = n + d.tmod 1000000000 + 1000000000 from by have := T.out; omega, show (n + d) / 1000000000 = d.tdiv 1000000000 - 1 from by have := T.out; omega]
    · have e2 := or_zero (n := n + d.tmod 1000000000) (by omega) (by omega)
      have e3 := and_top (n := n + d.tmod 1000000000) (by omega) (by omega)
      go_enter Try.func40, Try.ntmps40
      go_wp2_with (first
        | (go_at_call 47; refine (nsec_any _ n _ h0 h1 (by simp)).mono ?_; rintro r w' ⟨rfl, rfl⟩))
      refine (addSec_any w.heap.size (n + d.tmod 1000000000) s _ _ (by omega) (by omega) (by omega) (by omega) (by omega) (by omega) (by simp) (by simp) (by simp)).mono ?_
      rintro r w' ⟨rfl, rfl⟩
      go_wp2_with fail
      refine bodyPost_ret (v := .agg #[.int .u64 (n + d.tmod 1000000000), .int .i64 (s + (d.tdiv 1000000000)), .pointer none]) (by simp [results, Try.results40, go_sem]) rfl ⟨?_, below2 _ _ _⟩
      rw [show (n + d) % 1000000000 = n + d.tmod 1000000000 from by have := T.out; omega, show (n + d) / 1000000000 = d.tdiv 1000000000 from by have := T.out; omega]

end Go.Proofs.Qxb6603484a
