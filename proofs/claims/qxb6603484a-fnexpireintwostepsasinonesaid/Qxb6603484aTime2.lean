/-
  THE WALKS of Equal, Before, Sub, ZZat, ZZns.
-/
import Derived.Test.Qxb6603484aTime
namespace Go.Proofs.Qxb6603484a
open Go.RowKit
set_option linter.unusedVariables false

theorem ret_b {a b : Bool} (h : a = b) : Ending.returned (.bool a) = .returned (.bool b) := by rw [h]
def eqT (n s m t : Int) : Bool := decide (s = t ∧ n = m)
def ltT (n s m t : Int) : Bool := decide (s < t ∨ s = t ∧ n < m)

theorem and_top2 {n m : Int} (h0 : 0 ≤ n) (h1 : n < 1000000000) (k0 : 0 ≤ m) (k1 : m < 1000000000) : bits .and .u64 (bits .and .u64 n m) 9223372036854775808 = 0 := by
  have h := and_le h0 (by omega : n < 1073741824) k0 (by omega : m < 1073741824)
  exact and_top h.1 (by omega)

set_option maxHeartbeats 1000000 in
theorem equal_any (n s m t : Int) (w : World) (h0 : 0 ≤ n) (h1 : n < 1000000000) (k0 : 0 ≤ m) (k1 : m < 1000000000) :
    Calls Try.prog 52 #[tv n s, tv m t] w fun r w' => r = .returned (.bool (eqT n s m t)) ∧ Below w.heap.size w w' := by
  have e := and_top2 h0 h1 k0 k1
  unfold tv
  by_cases c : s = t
  · have c' : (s == t) = true := by simpa using c
    have hE : Hid (eqT n s m t = (n == m)) := by show _ = _; unfold eqT; rw [Bool.eq_iff_iff]; simp [c]
    clear c
    go_enter Try.func52, Try.ntmps52
    go_wp2_with fail
    refine (sec_any _ n s _ h0 h1 (by simp) (by simp)).mono ?_
    rintro r w' ⟨rfl, rfl⟩
    go_wp2_with fail
    refine (sec_any _ m t _ k0 k1 (by simp) (by simp)).mono ?_
    rintro r w' ⟨rfl, rfl⟩
    go_wp2_with fail
    refine (nsec_any _ n _ h0 h1 (by simp)).mono ?_
    rintro r w' ⟨rfl, rfl⟩
    go_wp2_with fail
    refine (nsec_any _ m _ k0 k1 (by simp)).mono ?_
    rintro r w' ⟨rfl, rfl⟩
    go_wp2_with fail
    go_ret
    exact ⟨ret_b hE.out.symm, below2 _ _ _⟩
  · have c' : (s == t) = false := by simpa using c
    have hE : Hid (eqT n s m t = false) := by show _ = _; unfold eqT; simp [c]
    clear c
    go_enter Try.func52, Try.ntmps52
    go_wp2_with fail
    refine (sec_any _ n s _ h0 h1 (by simp) (by simp)).mono ?_
    rintro r w' ⟨rfl, rfl⟩
    go_wp2_with fail
    refine (sec_any _ m t _ k0 k1 (by simp) (by simp)).mono ?_
    rintro r w' ⟨rfl, rfl⟩
    go_wp2_with fail
    go_ret
    exact ⟨ret_b hE.out.symm, below2 _ _ _⟩

set_option maxHeartbeats 1000000 in
theorem before_any (n s m t : Int) (w : World) (h0 : 0 ≤ n) (h1 : n < 1000000000) (k0 : 0 ≤ m) (k1 : m < 1000000000) :
    Calls Try.prog 53 #[tv n s, tv m t] w fun r w' => r = .returned (.bool (ltT n s m t)) ∧ Below w.heap.size w w' := by
  have e := and_top2 h0 h1 k0 k1
  unfold tv
  by_cases c : s < t
  · have c' : decide (s < t) = true := by simpa using c
    have hE : Hid (ltT n s m t = true) := by show _ = _; unfold ltT; simp [c]
    clear c
    go_enter Try.func53, Try.ntmps53
    go_wp2_with fail
    refine (sec_any _ n s _ h0 h1 (by simp) (by simp)).mono ?_
    rintro r w' ⟨rfl, rfl⟩
    go_wp2_with fail
    refine (sec_any _ m t _ k0 k1 (by simp) (by simp)).mono ?_
    rintro r w' ⟨rfl, rfl⟩
    go_wp2_with fail
    go_ret
    exact ⟨ret_b hE.out.symm, below2 _ _ _⟩
  · have c' : decide (s < t) = false := by simpa using c
    by_cases d : s = t
    · have d' : (s == t) = true := by simpa using d
      have hE : Hid (ltT n s m t = decide (n < m)) := by show _ = _; unfold ltT; rw [Bool.eq_iff_iff]; simp [d]
      clear c d
      go_enter Try.func53, Try.ntmps53
      go_wp2_with fail
      refine (sec_any _ n s _ h0 h1 (by simp) (by simp)).mono ?_
      rintro r w' ⟨rfl, rfl⟩
      go_wp2_with fail
      refine (sec_any _ m t _ k0 k1 (by simp) (by simp)).mono ?_
      rintro r w' ⟨rfl, rfl⟩
      go_wp2_with fail
      refine (nsec_any _ n _ h0 h1 (by simp)).mono ?_
      rintro r w' ⟨rfl, rfl⟩
      go_wp2_with fail
      refine (nsec_any _ m _ k0 k1 (by simp)).mono ?_
      rintro r w' ⟨rfl, rfl⟩
      go_wp2_with fail
      go_ret
      exact ⟨ret_b hE.out.symm, below2 _ _ _⟩
    · have d' : (s == t) = false := by simpa using d
      have hE : Hid (ltT n s m t = false) := by show _ = _; unfold ltT; simp [c, d]
      clear c d
      go_enter Try.func53, Try.ntmps53
      go_wp2_with fail
      refine (sec_any _ n s _ h0 h1 (by simp) (by simp)).mono ?_
      rintro r w' ⟨rfl, rfl⟩
      go_wp2_with fail
      refine (sec_any _ m t _ k0 k1 (by simp) (by simp)).mono ?_
      rintro r w' ⟨rfl, rfl⟩
      go_wp2_with fail
      go_ret
      exact ⟨ret_b hE.out.symm, below2 _ _ _⟩

end Go.Proofs.Qxb6603484a
