/-
  THE WALKS of FnStringEndExact, FnStringEndShift.
-/
import Derived.Test.Qxb6603378aModel
namespace Go.Proofs.Qxb6603378a
open Go.RowKit Plain
set_option linter.unusedVariables false

theorem ret_bool' {a b : Bool} (h : a = b) : Ending.returned (.bool a) = .returned (.bool b) := by rw [h]
def okN (n : Nat) : Bool := decide (n ≤ 1048576)
theorem okN_yes {n : Nat} (h : n ≤ 1048576) : okN n = true := by unfold okN; simpa using h
theorem okN_no {n : Nat} (h : ¬ n ≤ 1048576) : okN n = false := by unfold okN; simpa using h

theorem zzBytes27_any (ao : Option Addr) (n cap : Nat) (i : Int) (w : World) (hn : n ≤ maxLen) :
    Calls Try.prog 27 #[.slice ao n cap, .int .i64 i] w fun r w' => r = .returned (.bool (okN n)) ∧ w' = w := by
  unfold maxLen at hn
  by_cases h : n ≤ 1048576
  · have hd : Hid (okN n = true) := okN_yes h
    go_enter Try.func27, Try.ntmps27
    go_wp2
    go_ret
    exact ⟨ret_bool' hd.out.symm, rfl⟩
  · have hd : Hid (okN n = false) := okN_no h
    go_enter Try.func27, Try.ntmps27
    go_wp2
    go_ret
    exact ⟨ret_bool' hd.out.symm, rfl⟩

theorem zzBytes29_any (ao : Option Addr) (n cap : Nat) (i : Int) (w : World) (hn : n ≤ maxLen) :
    Calls Try.prog 29 #[.slice ao n cap, .int .i64 i] w fun r w' => r = .returned (.bool (okN n)) ∧ w' = w := by
  unfold maxLen at hn
  by_cases h : n ≤ 1048576
  · have hd : Hid (okN n = true) := okN_yes h
    go_enter Try.func29, Try.ntmps29
    go_wp2
    go_ret
    exact ⟨ret_bool' hd.out.symm, rfl⟩
  · have hd : Hid (okN n = false) := okN_no h
    go_enter Try.func29, Try.ntmps29
    go_wp2
    go_ret
    exact ⟨ret_bool' hd.out.symm, rfl⟩

set_option maxHeartbeats 1000000 in
theorem exact_any (ao : Option Addr) (n cap : Nat) (i : Int) (g : Nat → Int) (w : World) (hn : n ≤ maxLen) (hi1 : -9223372036854775808 ≤ i) (hi2 : i ≤ 9223372036854775807) (hr : Row w ao n g) :
    Calls Try.prog 8 #[.slice ao n cap, .int .i64 i] w fun r w' => r = .returned (.bool true) ∧ Below w.heap.size w w' := by
  by_cases hb : n ≤ 1048576
  · have hd := okN_yes hb
    by_cases h0 : i < 0
    · go_enter Try.func8, Try.ntmps8
      go_wp2_with (go_at_call 27; refine (zzBytes27_any ao n cap i _ hn).mono ?_; rintro r w' ⟨rfl, rfl⟩)
      go_ret
      exact ⟨rfl, Below.refl _ _⟩
    · have h0' : decide (i < 0) = false := by simpa using h0
      by_cases h1 : (n : Int) ≤ i
      · go_enter Try.func8, Try.ntmps8
        go_wp2_with (go_at_call 27; refine (zzBytes27_any ao n cap i _ hn).mono ?_; rintro r w' ⟨rfl, rfl⟩)
        go_ret
        exact ⟨rfl, Below.refl _ _⟩
      · obtain ⟨k, rfl⟩ : ∃ k : Nat, i = (k : Int) := ⟨i.toNat, by omega⟩
        have hk : k < n := by omega
        rcases hr with h | ⟨b, off, rfl, ht⟩
        · omega
        cases hs : strModel g n k with
        | none =>
          have HS : Hid (strModel g n k = none) := hs
          clear hs
          go_enter Try.func8, Try.ntmps8
          go_wp2_with (first
            | (go_at_call 27; refine (zzBytes27_any _ n cap _ _ hn).mono ?_; rintro r w' ⟨rfl, rfl⟩)
            | (go_at_call 21; refine (stringModel_any b off n cap k g _ (by omega) hk ht).mono ?_; rintro r w' ⟨rfl, rfl⟩; rw [HS.out]; unfold smRet))
          go_ret
          exact ⟨rfl, Below.refl _ _⟩
        | some e =>
          have HS : Hid (strModel g n k = some e) := hs
          clear hs
          go_enter Try.func8, Try.ntmps8
          go_wp2_with (first
            | (go_at_call 27; refine (zzBytes27_any _ n cap _ _ hn).mono ?_; rintro r w' ⟨rfl, rfl⟩)
            | (go_at_call 21; refine (stringModel_any b off n cap k g _ (by omega) hk ht).mono ?_; rintro r w' ⟨rfl, rfl⟩; rw [HS.out]; unfold smRet)
            | (go_at_call 19; refine (cloneBytes_any b off n cap g _ (by omega) ht).mono ?_; rintro r w1 ⟨rfl, t1, b1, _⟩)
            | (go_at_call 28; refine (zzStringEnd_any _ 0 n n k e n g _ (by omega) t1 (se_strModel HS.out (by omega))).mono ?_; rintro r w' ⟨rfl, rfl⟩))
          go_ret
          exact ⟨ret_bool' (by simp), b1⟩
  · have hd := okN_no hb
    go_enter Try.func8, Try.ntmps8
    go_wp2_with (go_at_call 27; refine (zzBytes27_any ao n cap i _ hn).mono ?_; rintro r w' ⟨rfl, rfl⟩)
    go_ret
    exact ⟨rfl, Below.refl _ _⟩

theorem zzStringEnd_zero (b off n cap e f : Nat) (g : Nat → Int) (w : World) (hn : n ≤ 1099511627776) (ht : Txt w b off n g) (hs : se g n f 1 = some e) :
    Calls Try.prog 28 #[.slice (some ⟨b, off, none⟩) n cap, .int .i64 0] w fun r w' => r = .returned (.int .i64 e) ∧ w' = w := by
  have h := zzStringEnd_any b off n cap 0 e f g w hn ht hs
  simpa using h

theorem Txt.sub {w : World} {b off n k m : Nat} {g : Nat → Int} (h : Txt w b off n g) (hm : k + m ≤ n) : Txt w b (off + k) m (fun t => g (k + t)) := fun i hi => by
  have := h (k + i) (by omega)
  rwa [← Nat.add_assoc] at this

set_option maxHeartbeats 1000000 in
theorem shift_any (ao : Option Addr) (n cap : Nat) (i : Int) (g : Nat → Int) (w : World) (hn : n ≤ maxLen) (hi1 : -9223372036854775808 ≤ i) (hi2 : i ≤ 9223372036854775807) (hr : Row w ao n g) :
    Calls Try.prog 9 #[.slice ao n cap, .int .i64 i] w fun r w' => r = .returned (.bool true) ∧ Below w.heap.size w w' := by
  by_cases hb : n ≤ 1048576
  · have hd := okN_yes hb
    by_cases h0 : i < 0
    · go_enter Try.func9, Try.ntmps9
      go_wp2_with (go_at_call 29; refine (zzBytes29_any ao n cap i _ hn).mono ?_; rintro r w' ⟨rfl, rfl⟩)
      go_ret
      exact ⟨rfl, Below.refl _ _⟩
    · have h0' : decide (i < 0) = false := by simpa using h0
      by_cases h1 : (n : Int) ≤ i
      · go_enter Try.func9, Try.ntmps9
        go_wp2_with (go_at_call 29; refine (zzBytes29_any ao n cap i _ hn).mono ?_; rintro r w' ⟨rfl, rfl⟩)
        go_ret
        exact ⟨rfl, Below.refl _ _⟩
      · obtain ⟨k, rfl⟩ : ∃ k : Nat, i = (k : Int) := ⟨i.toNat, by omega⟩
        have hk : k < n := by omega
        rcases hr with h | ⟨b, off, rfl, ht⟩
        · omega
        cases hs : strModel g n k with
        | none =>
          have HS : Hid (strModel g n k = none) := hs
          clear hs
          go_enter Try.func9, Try.ntmps9
          go_wp2_with (first
            | (go_at_call 29; refine (zzBytes29_any _ n cap _ _ hn).mono ?_; rintro r w' ⟨rfl, rfl⟩)
            | (go_at_call 21; refine (stringModel_any b off n cap k g _ (by omega) hk ht).mono ?_; rintro r w' ⟨rfl, rfl⟩; rw [HS.out]; unfold smRet))
          go_ret
          exact ⟨rfl, Below.refl _ _⟩
        | some e =>
          have HS : Hid (strModel g n k = some e) := hs
          clear hs
          go_enter Try.func9, Try.ntmps9
          go_wp2_with (first
            | (go_at_call 29; refine (zzBytes29_any _ n cap _ _ hn).mono ?_; rintro r w' ⟨rfl, rfl⟩)
            | (go_at_call 21; refine (stringModel_any b off n cap k g _ (by omega) hk ht).mono ?_; rintro r w' ⟨rfl, rfl⟩; rw [HS.out]; unfold smRet)
            | (go_at_call 19; refine (cloneBytes_any b off n cap g _ (by omega) ht).mono ?_; rintro r w1 ⟨rfl, t1, b1, _⟩))
          have hse := se_strModel (f := n) HS.out (by omega)
          have hb2 := strModel_some HS.out
          have hc : w1.cell? ⟨w'.heap.size, e - 1, none⟩ = some (.int .u8 34) := by
            have := t1 (e - 1) (by omega)
            rw [hb2.2.2.1, Nat.zero_add] at this
            exact this
          have he1 : k + 1 < e := hb2.1
          have he2 : e ≤ n := hb2.2.1
          refine (zzStringEnd_any _ 0 n n k e n g _ (by omega) t1 hse).mono ?_
          rintro r w' ⟨rfl, rfl⟩
          clear hb2
          go_wp2_with fail
          have t2 := t1.sub (k := k) (m := e - k) (by omega)
          rw [Nat.zero_add] at t2
          have hs2 : se (fun t => g (k + t)) (e - k) n 1 = some (e - k) := se_shift (n' := e - k) (s := k) hse (Nat.le_refl _) (by omega) (fun t _ => rfl)
          refine (zzStringEnd_zero _ k (e - k) (n - k) (e - k) n (fun t => g (k + t)) _ (by omega) t2 hs2).mono ?_
          rintro r w' ⟨rfl, rfl⟩
          go_wp2
          go_ret
          exact ⟨ret_bool' (by simp; omega), b1⟩
  · have hd := okN_no hb
    go_enter Try.func9, Try.ntmps9
    go_wp2_with (go_at_call 29; refine (zzBytes29_any ao n cap i _ hn).mono ?_; rintro r w' ⟨rfl, rfl⟩)
    go_ret
    exact ⟨rfl, Below.refl _ _⟩

end Go.Proofs.Qxb6603378a
