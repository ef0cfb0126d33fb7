/-
  THE WALKS of Sub, ZZat, ZZns.
-/
import Derived.Test.Qxb6603484aTime2
import Derived.Deep.RegionHeld3
namespace Go.Proofs.Qxb6603484a
open Go.RowKit
set_option linter.unusedVariables false

/-- A boxed time reads as it did in every later world. -/
theorem keep_sub {w W w1 : World} {n s m t : Int} (h : W.cell? ⟨w.heap.size, 0, none⟩ = some (.int .u64 n) ∧ W.cell? ⟨w.heap.size, 1, none⟩ = some (.int .i64 s) ∧ W.cell? ⟨w.heap.size, 2, none⟩ = some (.pointer none) ∧
      W.cell? ⟨w.heap.size + 1, 0, none⟩ = some (.int .u64 m) ∧ W.cell? ⟨w.heap.size + 1, 1, none⟩ = some (.int .i64 t) ∧ W.cell? ⟨w.heap.size + 1, 2, none⟩ = some (.pointer none) ∧ Below w.heap.size w W) (hb : Below W.heap.size W w1) :
    w1.cell? ⟨w.heap.size, 0, none⟩ = some (.int .u64 n) ∧ w1.cell? ⟨w.heap.size, 1, none⟩ = some (.int .i64 s) ∧ w1.cell? ⟨w.heap.size, 2, none⟩ = some (.pointer none) ∧
      w1.cell? ⟨w.heap.size + 1, 0, none⟩ = some (.int .u64 m) ∧ w1.cell? ⟨w.heap.size + 1, 1, none⟩ = some (.int .i64 t) ∧ w1.cell? ⟨w.heap.size + 1, 2, none⟩ = some (.pointer none) ∧ Below w.heap.size w w1 := by
  obtain ⟨a, b, c, d, e, f, g⟩ := h
  exact ⟨cell_later hb a, cell_later hb b, cell_later hb c, cell_later hb d, cell_later hb e, cell_later hb f, g.trans (hb.mono g.size)⟩

theorem ret_i {k : IntKind} {a b : Int} (h : b = a) : Ending.returned (.int k a) = .returned (.int k b) := by rw [h]

set_option maxHeartbeats 2000000 in
theorem sub_gen (n s m t D R : Int) (w : World) (h0 : 0 ≤ n) (h1 : n < 1000000000) (k0 : 0 ≤ m) (k1 : m < 1000000000) (hs1 : -9223372037 ≤ s) (hs2 : s ≤ 9223372036) (ht1 : -9223372037 ≤ t) (ht2 : t ≤ 9223372036)
    (hD : wrap64 (wrap64 ((s - t) * 1000000000) + (n - m)) = D) (hD1 : -9223372036854775808 ≤ D) (hD2 : D ≤ 9223372036854775807)
    (hyp : (eqT ((m + D) % 1000000000) (t + (m + D) / 1000000000) n s = true ∧ R = D) ∨
      (eqT ((m + D) % 1000000000) (t + (m + D) / 1000000000) n s = false ∧ ltT n s m t = true ∧ R = -9223372036854775808) ∨
      (eqT ((m + D) % 1000000000) (t + (m + D) / 1000000000) n s = false ∧ ltT n s m t = false ∧ R = 9223372036854775807)) :
    Calls Try.prog 41 #[tv n s, tv m t] w fun r w' => r = .returned (.int .i64 R) ∧ Below w.heap.size w w' := by
  have e := and_top2 h0 h1 k0 k1
  have hb2 := below2 w (.cells #[.int .u64 n, .int .i64 s, .pointer none] 36) (.cells #[.int .u64 m, .int .i64 t, .pointer none] 36)
  unfold tv
  rcases hyp with ⟨q1, hR0⟩ | ⟨q1, q2, hR0⟩ | ⟨q1, q2, hR0⟩
  · have HR : Hid (R = D) := hR0
    clear hR0
    go_enter Try.func41, Try.ntmps41
    go_wp2_with fail
    refine (sec_any _ n s _ h0 h1 (by simp) (by simp)).mono ?_
    rintro r w' ⟨rfl, rfl⟩
    go_wp2_with fail
    refine (sec_any _ m t _ k0 k1 (by simp) (by simp)).mono ?_
    rintro r w' ⟨rfl, rfl⟩
    go_wp2_with fail
    refine (nsec_any _ n _ h0 h1 (by simp)).mono ?_
    rintro r w' ⟨rfl, rfl⟩
    go_wp2_with fail
    refine (nsec_any _ m _ k0 k1 (by simp)).mono ?_
    rintro r w' ⟨rfl, rfl⟩
    go_wp2_with fail
    go_region_held3 (fun w' => w'.cell? ⟨w.heap.size, 0, none⟩ = some (.int .u64 n) ∧ w'.cell? ⟨w.heap.size, 1, none⟩ = some (.int .i64 s) ∧ w'.cell? ⟨w.heap.size, 2, none⟩ = some (.pointer none) ∧
        w'.cell? ⟨w.heap.size + 1, 0, none⟩ = some (.int .u64 m) ∧ w'.cell? ⟨w.heap.size + 1, 1, none⟩ = some (.int .i64 t) ∧ w'.cell? ⟨w.heap.size + 1, 2, none⟩ = some (.pointer none) ∧ Below w.heap.size w w')
      (first | exact keep_sub (by assumption) (by assumption) | (simp [*]; exact hb2.drew))
      (first
        | (go_at_call 40; refine (add_any m t D _ k0 k1 (by omega) (by omega) hD1 hD2).mono ?_; rintro r w1 ⟨rfl, hb⟩; unfold tv)
        | (go_at_call 52; refine (equal_any _ _ n s _ (by omega) (by omega) h0 h1).mono ?_; rintro r w1 ⟨rfl, hb⟩))
    go_wp2_with fail
    go_ret
    exact ⟨ret_i HR.out, (by assumption : _ ∧ _ ∧ _ ∧ _ ∧ _ ∧ _ ∧ Below w.heap.size w _).2.2.2.2.2.2⟩
  · have HR : Hid (R = -9223372036854775808) := hR0
    clear hR0
    go_enter Try.func41, Try.ntmps41
    go_wp2_with fail
    refine (sec_any _ n s _ h0 h1 (by simp) (by simp)).mono ?_
    rintro r w' ⟨rfl, rfl⟩
    go_wp2_with fail
    refine (sec_any _ m t _ k0 k1 (by simp) (by simp)).mono ?_
    rintro r w' ⟨rfl, rfl⟩
    go_wp2_with fail
    refine (nsec_any _ n _ h0 h1 (by simp)).mono ?_
    rintro r w' ⟨rfl, rfl⟩
    go_wp2_with fail
    refine (nsec_any _ m _ k0 k1 (by simp)).mono ?_
    rintro r w' ⟨rfl, rfl⟩
    go_wp2_with fail
    go_region_held3 (fun w' => w'.cell? ⟨w.heap.size, 0, none⟩ = some (.int .u64 n) ∧ w'.cell? ⟨w.heap.size, 1, none⟩ = some (.int .i64 s) ∧ w'.cell? ⟨w.heap.size, 2, none⟩ = some (.pointer none) ∧
        w'.cell? ⟨w.heap.size + 1, 0, none⟩ = some (.int .u64 m) ∧ w'.cell? ⟨w.heap.size + 1, 1, none⟩ = some (.int .i64 t) ∧ w'.cell? ⟨w.heap.size + 1, 2, none⟩ = some (.pointer none) ∧ Below w.heap.size w w')
      (first | exact keep_sub (by assumption) (by assumption) | (simp [*]; exact hb2.drew))
      (first
        | (go_at_call 40; refine (add_any m t D _ k0 k1 (by omega) (by omega) hD1 hD2).mono ?_; rintro r w1 ⟨rfl, hb⟩; unfold tv)
        | (go_at_call 52; refine (equal_any _ _ n s _ (by omega) (by omega) h0 h1).mono ?_; rintro r w1 ⟨rfl, hb⟩))
    obtain ⟨q0, q1, q2, q3, q4, q5, q6⟩ := (by assumption : _ ∧ _ ∧ _ ∧ _ ∧ _ ∧ _ ∧ Below w.heap.size w _)
    go_wp2_with fail
    refine (before_any n s m t _ h0 h1 k0 k1).mono ?_
    rintro r w2 ⟨rfl, hb3⟩
    go_wp2_with fail
    go_ret
    exact ⟨ret_i HR.out, q6.trans (hb3.mono q6.size)⟩
  · have HR : Hid (R = 9223372036854775807) := hR0
    clear hR0
    go_enter Try.func41, Try.ntmps41
    go_wp2_with fail
    refine (sec_any _ n s _ h0 h1 (by simp) (by simp)).mono ?_
    rintro r w' ⟨rfl, rfl⟩
    go_wp2_with fail
    refine (sec_any _ m t _ k0 k1 (by simp) (by simp)).mono ?_
    rintro r w' ⟨rfl, rfl⟩
    go_wp2_with fail
    refine (nsec_any _ n _ h0 h1 (by simp)).mono ?_
    rintro r w' ⟨rfl, rfl⟩
    go_wp2_with fail
    refine (nsec_any _ m _ k0 k1 (by simp)).mono ?_
    rintro r w' ⟨rfl, rfl⟩
    go_wp2_with fail
    go_region_held3 (fun w' => w'.cell? ⟨w.heap.size, 0, none⟩ = some (.int .u64 n) ∧ w'.cell? ⟨w.heap.size, 1, none⟩ = some (.int .i64 s) ∧ w'.cell? ⟨w.heap.size, 2, none⟩ = some (.pointer none) ∧
        w'.cell? ⟨w.heap.size + 1, 0, none⟩ = some (.int .u64 m) ∧ w'.cell? ⟨w.heap.size + 1, 1, none⟩ = some (.int .i64 t) ∧ w'.cell? ⟨w.heap.size + 1, 2, none⟩ = some (.pointer none) ∧ Below w.heap.size w w')
      (first | exact keep_sub (by assumption) (by assumption) | (simp [*]; exact hb2.drew))
      (first
        | (go_at_call 40; refine (add_any m t D _ k0 k1 (by omega) (by omega) hD1 hD2).mono ?_; rintro r w1 ⟨rfl, hb⟩; unfold tv)
        | (go_at_call 52; refine (equal_any _ _ n s _ (by omega) (by omega) h0 h1).mono ?_; rintro r w1 ⟨rfl, hb⟩))
    obtain ⟨q0, q1, q2, q3, q4, q5, q6⟩ := (by assumption : _ ∧ _ ∧ _ ∧ _ ∧ _ ∧ _ ∧ Below w.heap.size w _)
    go_wp2_with fail
    refine (before_any n s m t _ h0 h1 k0 k1).mono ?_
    rintro r w2 ⟨rfl, hb3⟩
    go_wp2_with fail
    go_ret
    exact ⟨ret_i HR.out, q6.trans (hb3.mono q6.size)⟩

/-- The time a nanoseconds after the zero time, as a value. -/
def tT (a : Int) : Value := tv (a % 1000000000) (a / 1000000000)
/-- a - b as a Duration: cut at the ends. -/
def subD (a b : Int) : Int := if a - b < -9223372036854775808 then -9223372036854775808 else if 9223372036854775807 < a - b then 9223372036854775807 else a - b

theorem wrap64_eq (x : Int) : wrap64 x = (x + 9223372036854775808) % 18446744073709551616 - 9223372036854775808 := by unfold wrap64; omega
theorem wrap_join (x y : Int) : (((x + 9223372036854775808) % 18446744073709551616 - 9223372036854775808) + y + 9223372036854775808) % 18446744073709551616 = (x + y + 9223372036854775808) % 18446744073709551616 := by omega
theorem join_ab (a b : Int) : (a / 1000000000 - b / 1000000000) * 1000000000 + (a % 1000000000 - b % 1000000000) = a - b := by omega
theorem div_join (b D : Int) : b / 1000000000 + (b % 1000000000 + D) / 1000000000 = (b + D) / 1000000000 := by omega
theorem mod_join (b D : Int) : (b % 1000000000 + D) % 1000000000 = (b + D) % 1000000000 := by omega
theorem eqT_iff (a c : Int) : eqT (c % 1000000000) (c / 1000000000) (a % 1000000000) (a / 1000000000) = decide (c = a) := by
  unfold eqT
  rw [Bool.eq_iff_iff]
  simp only [decide_eq_true_eq]
  constructor
  · intro h; omega
  · intro h; subst h; exact ⟨rfl, rfl⟩
theorem ltT_iff (a b : Int) : ltT (a % 1000000000) (a / 1000000000) (b % 1000000000) (b / 1000000000) = decide (a < b) := by
  unfold ltT
  rw [Bool.eq_iff_iff]
  simp only [decide_eq_true_eq]
  constructor
  · intro h; omega
  · intro h; omega

theorem sub_any (a b : Int) (w : World) (ha1 : -9223372036854775808 ≤ a) (ha2 : a ≤ 9223372036854775807) (hb1 : -9223372036854775808 ≤ b) (hb2 : b ≤ 9223372036854775807) :
    Calls Try.prog 41 #[tT a, tT b] w fun r w' => r = .returned (.int .i64 (subD a b)) ∧ Below w.heap.size w w' := by
  obtain ⟨D, hD⟩ : ∃ D, wrap64 (wrap64 ((a / 1000000000 - b / 1000000000) * 1000000000) + (a % 1000000000 - b % 1000000000)) = D := ⟨_, rfl⟩
  have hD' : D = (a - b + 9223372036854775808) % 18446744073709551616 - 9223372036854775808 := by
    rw [← hD, wrap64_eq, wrap64_eq, wrap_join, join_ab]
  have hD1 : -9223372036854775808 ≤ D := by omega
  have hD2 : D ≤ 9223372036854775807 := by omega
  refine sub_gen (a % 1000000000) (a / 1000000000) (b % 1000000000) (b / 1000000000) D (subD a b) w (by omega) (by omega) (by omega) (by omega) (by omega) (by omega) (by omega) (by omega) hD hD1 hD2 ?_
  rw [div_join, mod_join, eqT_iff, ltT_iff]
  clear hD
  unfold subD
  by_cases c1 : a - b < -9223372036854775808
  · right; left
    rw [if_pos c1]
    exact ⟨decide_eq_false (by omega), decide_eq_true (by omega), rfl⟩
  · by_cases c2 : 9223372036854775807 < a - b
    · right; right
      rw [if_neg c1, if_pos c2]
      exact ⟨decide_eq_false (by omega), decide_eq_false (by omega), rfl⟩
    · left
      rw [if_neg c1, if_neg c2]
      exact ⟨decide_eq_true (by omega), by omega⟩

/-! ### ZZat, ZZns -/
theorem bcell {W w1 : World} (hb : Below W.heap.size W w1) : (∀ b o, b < W.heap.size → w1.cell? ⟨b, o, none⟩ = W.cell? ⟨b, o, none⟩) ∧ (∀ b o, b < W.heap.size → w1.frozen? ⟨b, o, none⟩ = W.frozen? ⟨b, o, none⟩) :=
  ⟨fun b o h => hb.cell (p := ⟨b, o, none⟩) h, fun b o h => hb.frozen (p := ⟨b, o, none⟩) h⟩

set_option maxHeartbeats 400000 in
theorem zzat_any (a : Int) (w : World) (ha1 : -9223372036854775808 ≤ a) (ha2 : a ≤ 9223372036854775807) :
    Calls Try.prog 26 #[.int .i64 a] w fun r w' => r = .returned (tT a) ∧ Below w.heap.size w w' := by
  go_enter Try.func26, Try.ntmps26
  go_wp2_with fail
  refine (add_any 0 0 a _ (by omega) (by omega) (by omega) (by omega) ha1 ha2).mono ?_
  rintro r w1 ⟨rfl, hb⟩
  unfold tv
  have hz : w.heap.size < w1.heap.size := by have := hb.size; simp at this; omega
  obtain ⟨hc, hf⟩ := bcell hb
  simp only [Int.zero_add]
  go_wp2_with fail
  refine bodyPost_ret (v := .agg #[.int .u64 (a % 1000000000), .int .i64 (a / 1000000000), .pointer none]) (by simp [results, Try.results26, go_sem, hc]) rfl ⟨rfl, ?_⟩
  exact (((((Below.refl _ _).alloc (Nat.le_refl _) _).trans (hb.mono (by simp))).setCell (by simp) _).setCell (by simp) _).setCell (by simp) _

theorem sub_zero (a : Int) (w : World) (ha1 : -9223372036854775808 ≤ a) (ha2 : a ≤ 9223372036854775807) :
    Calls Try.prog 41 #[.agg #[.int .u64 (a % 1000000000), .int .i64 (a / 1000000000), .pointer none], .agg #[.int .u64 0, .int .i64 0, .pointer none]] w fun r w' => r = .returned (.int .i64 a) ∧ Below w.heap.size w w' := by
  have h := sub_any a 0 w ha1 ha2 (by omega) (by omega)
  have e : subD a 0 = a := by unfold subD; rw [if_neg (by omega), if_neg (by omega)]; omega
  rw [e] at h
  exact h

set_option maxHeartbeats 400000 in
theorem zzns_any (a : Int) (w : World) (ha1 : -9223372036854775808 ≤ a) (ha2 : a ≤ 9223372036854775807) :
    Calls Try.prog 28 #[tT a] w fun r w' => r = .returned (.int .i64 a) ∧ Below w.heap.size w w' := by
  unfold tT tv
  go_enter Try.func28, Try.ntmps28
  go_wp2_with fail
  refine (sub_zero a _ ha1 ha2).mono ?_
  rintro r w1 ⟨rfl, hb⟩
  go_wp2_with fail
  go_ret
  exact ⟨rfl, ((Below.refl _ _).alloc (Nat.le_refl _) _).trans (hb.mono (by simp))⟩

end Go.Proofs.Qxb6603484a
