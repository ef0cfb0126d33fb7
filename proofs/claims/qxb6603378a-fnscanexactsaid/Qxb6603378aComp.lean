/-
  THE WALKS of completeAt and of FnScanExact.
-/
import Derived.Test.Qxb6603378aScan
import Derived.Test.Qxb6603378aExact
namespace Go.Proofs.Qxb6603378a
open Go.RowKit Plain
set_option linter.unusedVariables false

theorem zzBytes17_any (ao : Option Addr) (n cap : Nat) (i : Int) (w : World) (hn : n ≤ maxLen) :
    Calls Try.prog 17 #[.slice ao n cap, .int .i64 i] w fun r w' => r = .returned (.bool (okN n)) ∧ w' = w := by
  unfold maxLen at hn
  by_cases h : n ≤ 1048576
  · have hd : Hid (okN n = true) := okN_yes h
    go_enter Try.func17, Try.ntmps17
    go_wp2
    go_ret
    exact ⟨ret_bool' hd.out.symm, rfl⟩
  · have hd : Hid (okN n = false) := okN_no h
    go_enter Try.func17, Try.ntmps17
    go_wp2
    go_ret
    exact ⟨ret_bool' hd.out.symm, rfl⟩

theorem zzBytes24_any (ao : Option Addr) (n cap : Nat) (i : Int) (w : World) (hn : n ≤ maxLen) :
    Calls Try.prog 24 #[.slice ao n cap, .int .i64 i] w fun r w' => r = .returned (.bool (okN n)) ∧ w' = w := by
  unfold maxLen at hn
  by_cases h : n ≤ 1048576
  · have hd : Hid (okN n = true) := okN_yes h
    go_enter Try.func24, Try.ntmps24
    go_wp2
    go_ret
    exact ⟨ret_bool' hd.out.symm, rfl⟩
  · have hd : Hid (okN n = false) := okN_no h
    go_enter Try.func24, Try.ntmps24
    go_wp2
    go_ret
    exact ⟨ret_bool' hd.out.symm, rfl⟩

/-! ### completeAt -/
/-- Does i lie outside the text? -/
theorem completeAt_out (ao : Option Addr) (n cap : Nat) (i : Int) (w : World) (hn : n ≤ 1048576) (h : i < 0 ∨ (n : Int) ≤ i) :
    Calls Try.prog 18 #[.slice ao n cap, .int .i64 i] w fun r w' => r = .returned (.bool false) ∧ w' = w := by
  by_cases h0 : i < 0
  · clear h
    go_enter Try.func18, Try.ntmps18
    go_wp2_with fail
    go_ret
    exact ⟨rfl, rfl⟩
  · have h1 : (n : Int) ≤ i := by omega
    have h0' : decide (i < 0) = false := by simpa using h0
    clear h
    go_enter Try.func18, Try.ntmps18
    go_wp2_with fail
    go_ret
    exact ⟨rfl, rfl⟩

def compB (g : Nat → Int) (n k : Nat) : Bool := if g k = 34 then (strModel g n k).isSome else if g k = 91 ∨ g k = 123 then (cont g n (k + 1) 0).isSome else true
theorem compB_q {g : Nat → Int} {n k : Nat} (c : g k = 34) : compB g n k = (strModel g n k).isSome := by unfold compB; rw [if_pos c]
theorem compB_o {g : Nat → Int} {n k : Nat} (c : g k = 91 ∨ g k = 123) : compB g n k = (cont g n (k + 1) 0).isSome := by unfold compB; rw [if_neg (by omega), if_pos c]
theorem compB_s {g : Nat → Int} {n k : Nat} (c0 : g k ≠ 34) (c : ¬ (g k = 91 ∨ g k = 123)) : compB g n k = true := by unfold compB; rw [if_neg c0, if_neg c]

set_option maxHeartbeats 1000000 in
theorem completeAt_in (b off n cap k : Nat) (g : Nat → Int) (w : World) (hn : n ≤ 1048576) (hk : k < n) (ht : Txt w b off n g) :
    Calls Try.prog 18 #[.slice (some ⟨b, off, none⟩) n cap, .int .i64 k] w fun r w' => r = .returned (.bool (compB g n k)) ∧ w' = w := by
  have hc := ht k hk
  have hd : decide ((k : Int) < 0) = false := by simp
  by_cases c0 : g k = 34
  · have HC : Hid (compB g n k = (strModel g n k).isSome) := compB_q c0
    cases hs : strModel g n k with
    | none =>
      have HS : Hid (strModel g n k = none) := hs
      have H3 : Hid (compB g n k = false) := by show _ = _; rw [HC.out, hs]; rfl
      clear hs
      go_enter Try.func18, Try.ntmps18
      go_wp2_with (go_at_call 21; refine (stringModel_any b off n cap k g _ (by omega) hk ht).mono ?_; rintro r w' ⟨rfl, rfl⟩; rw [HS.out]; unfold smRet)
      go_ret
      exact ⟨ret_b H3.out.symm, rfl⟩
    | some e =>
      have HS : Hid (strModel g n k = some e) := hs
      have H3 : Hid (compB g n k = true) := by show _ = _; rw [HC.out, hs]; rfl
      clear hs
      go_enter Try.func18, Try.ntmps18
      go_wp2_with (go_at_call 21; refine (stringModel_any b off n cap k g _ (by omega) hk ht).mono ?_; rintro r w' ⟨rfl, rfl⟩; rw [HS.out]; unfold smRet)
      go_ret
      exact ⟨ret_b H3.out.symm, rfl⟩
  · have d0 : (g k == 34) = false := by simpa using c0
    by_cases c1 : g k = 91 ∨ g k = 123
    · have HC : Hid (compB g n k = (cont g n (k + 1) 0).isSome) := compB_o c1
      cases hs : cont g n (k + 1) 0 with
      | none =>
        have HS : Hid (cont g n (k + 1) 0 = none) := hs
        have H3 : Hid (compB g n k = false) := by show _ = _; rw [HC.out, hs]; rfl
        clear hs
        rcases c1 with c1 | c1
        all_goals
          go_enter Try.func18, Try.ntmps18
          go_wp2_with (go_at_call 22; refine (containerModel_any b off n cap g _ (by omega) ht n k (by omega) hk).mono ?_; rintro r w' ⟨rfl, rfl⟩; rw [HS.out]; unfold cmRet)
          go_ret
          exact ⟨ret_b H3.out.symm, rfl⟩
      | some r =>
        have HS : Hid (cont g n (k + 1) 0 = some r) := hs
        have H3 : Hid (compB g n k = true) := by show _ = _; rw [HC.out, hs]; rfl
        clear hs
        rcases c1 with c1 | c1
        all_goals
          go_enter Try.func18, Try.ntmps18
          go_wp2_with (go_at_call 22; refine (containerModel_any b off n cap g _ (by omega) ht n k (by omega) hk).mono ?_; rintro r w' ⟨rfl, rfl⟩; rw [HS.out]; unfold cmRet)
          go_ret
          exact ⟨ret_b H3.out.symm, rfl⟩
    · have H3 : Hid (compB g n k = true) := compB_s c0 c1
      have d1 : (g k == 91) = false := by simp; omega
      have d2 : (g k == 123) = false := by simp; omega
      clear c1 c0
      go_enter Try.func18, Try.ntmps18
      go_wp2_with fail
      go_ret
      exact ⟨ret_b H3.out.symm, rfl⟩

end Go.Proofs.Qxb6603378a
