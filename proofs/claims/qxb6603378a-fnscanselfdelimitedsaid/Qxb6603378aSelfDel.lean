/-
  THE WALK of FnScanSelfDelimited.
-/
import Derived.Test.Qxb6603378aComp
namespace Go.Proofs.Qxb6603378a
open Go.RowKit Plain
set_option linter.unusedVariables false

theorem zzScan_string0 (b off n cap e : Nat) (g : Nat → Int) (w : World) (hn : n ≤ 1099511627776) (hi : 0 < n) (ht : Txt w b off n g) (c0 : g 0 = 34) (hs : se g n n 1 = some e) :
    Calls Try.prog 20 #[.slice (some ⟨b, off, none⟩) n cap, .int .i64 0] w fun r w' => r = .returned (.tuple #[.int .i64 e, .int .i64 0]) ∧ w' = w := by
  have h := zzScan_string b off n cap 0 e g w hn hi ht c0 hs
  simpa using h
theorem zzScan_cont0 (b off n cap e m f : Nat) (g : Nat → Int) (w : World) (hn : n ≤ 1099511627776) (hi : 0 < n) (ht : Txt w b off n g) (hg : g 0 = 91 ∨ g 0 = 123) (hs : sc g n f 0 0 0 = some (e, m)) :
    Calls Try.prog 20 #[.slice (some ⟨b, off, none⟩) n cap, .int .i64 0] w fun r w' => r = .returned (.tuple #[.int .i64 e, .int .i64 m]) ∧ w' = w := by
  have h := zzScan_cont b off n cap 0 e m f g w hn hi ht hg hs
  simpa using h
/-- A text of which no byte ends a scalar is read whole. -/
theorem zzScan_scalar0 (b off n cap : Nat) (g : Nat → Int) (w : World) (hn : n ≤ 1099511627776) (hi : 0 < n) (ht : Txt w b off n g) (c0 : g 0 ≠ 34) (c1 : g 0 ≠ 91) (c2 : g 0 ≠ 123) (hno : ∀ t, t < n → endB (g t) = false) :
    Calls Try.prog 20 #[.slice (some ⟨b, off, none⟩) n cap, .int .i64 0] w fun r w' => r = .returned (.tuple #[.int .i64 n, .int .i64 0]) ∧ w' = w := by
  have h : Calls Try.prog 20 #[.slice (some ⟨b, off, none⟩) n cap, .int .i64 (0 : Nat)] w fun r w' => r = .returned (.tuple #[.int .i64 n, .int .i64 0]) ∧ w' = w := by
    refine (zzScan_scalar b off n cap 0 g w hn hi ht c0 c1 c2).mono ?_
    rintro r w' ⟨e, rfl, hS, rfl⟩
    have : e = n := by
      rcases hS.2.2.2 with h | h
      · exact h
      · by_cases he : e = n
        · exact he
        · have h1 := hno e (by have := hS.2.1; omega)
          rw [h1] at h; cases h
    subst this
    exact ⟨rfl, rfl⟩
  simpa using h

set_option maxHeartbeats 2000000 in
/-- The ways on which FnScanSelfDelimited returns ahead of the copy. -/
theorem selfDel_early (ao : Option Addr) (n cap : Nat) (i : Int) (g : Nat → Int) (w : World) (hn : n ≤ maxLen) (hr : Row w ao n g)
    (h : ¬ n ≤ 1048576 ∨ i < 0 ∨ (n : Int) ≤ i ∨ ∃ k : Nat, i = k ∧ k < n ∧ compB g n k = false) :
    Calls Try.prog 6 #[.slice ao n cap, .int .i64 i] w fun r w' => r = .returned (.bool true) ∧ w' = w := by
  by_cases hb : n ≤ 1048576
  · have hd := okN_yes hb
    by_cases h0 : i < 0 ∨ (n : Int) ≤ i
    · have H0 : Hid (i < 0 ∨ (n : Int) ≤ i) := h0
      clear h h0
      go_enter Try.func6, Try.ntmps6
      go_wp2_with (first
        | (go_at_call 24; refine (zzBytes24_any ao n cap i _ hn).mono ?_; rintro r w' ⟨rfl, rfl⟩)
        | (go_at_call 18; refine (completeAt_out ao n cap i _ hb H0.out).mono ?_; rintro r w' ⟨rfl, rfl⟩))
      go_ret
      exact ⟨rfl, rfl⟩
    · obtain ⟨k, rfl, hk, hcb⟩ : ∃ k : Nat, i = k ∧ k < n ∧ compB g n k = false := by
        rcases h with h | h | h | h
        · exact absurd hb h
        · exact absurd (.inl h) h0
        · exact absurd (.inr h) h0
        · exact h
      rcases hr with h | ⟨b, off, rfl, ht⟩
      · omega
      clear h0
      go_enter Try.func6, Try.ntmps6
      go_wp2_with (first
        | (go_at_call 24; refine (zzBytes24_any _ n cap _ _ hn).mono ?_; rintro r w' ⟨rfl, rfl⟩)
        | (go_at_call 18; refine (completeAt_in b off n cap k g _ hb hk ht).mono ?_; rintro r w' ⟨rfl, rfl⟩))
      go_ret
      exact ⟨rfl, rfl⟩
  · have hd := okN_no hb
    clear h
    go_enter Try.func6, Try.ntmps6
    go_wp2_with (go_at_call 24; refine (zzBytes24_any ao n cap i _ hn).mono ?_; rintro r w' ⟨rfl, rfl⟩)
    go_ret
    exact ⟨rfl, rfl⟩

set_option maxHeartbeats 2000000 in
theorem selfDel_string (b off n cap k e : Nat) (g : Nat → Int) (w : World) (hn : n ≤ 1048576) (hk : k < n) (ht : Txt w b off n g) (c0 : g k = 34) (hs : strModel g n k = some e) :
    Calls Try.prog 6 #[.slice (some ⟨b, off, none⟩) n cap, .int .i64 k] w fun r w' => r = .returned (.bool true) ∧ Below w.heap.size w w' := by
  have hd := okN_yes hn
  have hcb : compB g n k = true := by rw [compB_q c0, hs]; rfl
  have hse : Hid (se g n n (k + 1) = some e) := se_strModel hs (by omega)
  have hb := strModel_some hs
  have he1 : k + 1 < e := hb.1
  have he2 : e ≤ n := hb.2.1
  have C0 : Hid (g k = 34) := c0
  have hx1 : decide (e ≤ k) = false := by simp; omega
  have hx2 : decide (n < e) = false := by simp; omega
  have H2 : Hid (se (fun t => g (k + t)) (e - k) (e - k) 1 = some (e - k)) := by
    have h1 : se (fun t => g (k + t)) (e - k) n 1 = some (e - k) := se_shift (n' := e - k) (s := k) hse.out (Nat.le_refl _) (by omega) (fun t _ => rfl)
    show _ = _
    rw [← h1]
    exact se_fuel (by omega) (by omega)
  clear hs c0 hb
  go_enter Try.func6, Try.ntmps6
  go_wp2_with (first
    | (go_at_call 24; refine (zzBytes24_any _ n cap _ _ (by unfold maxLen; omega)).mono ?_; rintro r w' ⟨rfl, rfl⟩)
    | (go_at_call 18; refine (completeAt_in b off n cap k g _ hn hk ht).mono ?_; rintro r w' ⟨rfl, rfl⟩)
    | (go_at_call 19; refine (cloneBytes_any b off n cap g _ (by omega) ht).mono ?_; rintro r w1 ⟨rfl, t1, b1, _⟩))
  refine (zzScan_string _ 0 n n k e g _ (by omega) hk t1 C0.out hse.out).mono ?_
  rintro r w' ⟨rfl, rfl⟩
  go_wp2_with fail
  have t2 := t1.sub (k := k) (m := e - k) (by omega)
  rw [Nat.zero_add] at t2
  refine (zzScan_string0 _ k (e - k) (n - k) (e - k) (fun t => g (k + t)) _ (by omega) (by omega) t2 C0.out H2.out).mono ?_
  rintro r w' ⟨rfl, rfl⟩
  go_wp2
  all_goals
    go_ret
    exact ⟨ret_b (by simp), b1⟩

set_option maxHeartbeats 2000000 in
theorem selfDel_cont (b off n cap k e m : Nat) (g : Nat → Int) (w : World) (hn : n ≤ 1048576) (hk : k < n) (ht : Txt w b off n g) (c1 : g k = 91 ∨ g k = 123) (hs : cont g n (k + 1) 0 = some (e, m)) :
    Calls Try.prog 6 #[.slice (some ⟨b, off, none⟩) n cap, .int .i64 k] w fun r w' => r = .returned (.bool true) ∧ Below w.heap.size w w' := by
  have hd := okN_yes hn
  have hcb : compB g n k = true := by rw [compB_o c1, hs]; rfl
  obtain ⟨f, hf⟩ := sc_cont hk c1 hs
  have HF : Hid (sc g n f k 0 0 = some (e, m)) := hf
  have C1 : Hid (g k = 91 ∨ g k = 123) := c1
  have hb := sc_some hf
  simp only at hb
  have he1 : k < e := hb.1
  have he2 : e ≤ n := hb.2
  have hx1 : decide (e ≤ k) = false := by simp; omega
  have hx2 : decide (n < e) = false := by simp; omega
  have H2 : Hid (sc (fun t => g (k + t)) (e - k) f 0 0 0 = some (e - k, m)) :=
    sc_shift (g := g) (n := n) (s := k) (r := (e, m)) hf (by simp only; omega) (fun t _ => rfl)
  clear hs hf hb c1
  go_enter Try.func6, Try.ntmps6
  go_wp2_with (first
    | (go_at_call 24; refine (zzBytes24_any _ n cap _ _ (by unfold maxLen; omega)).mono ?_; rintro r w' ⟨rfl, rfl⟩)
    | (go_at_call 18; refine (completeAt_in b off n cap k g _ hn hk ht).mono ?_; rintro r w' ⟨rfl, rfl⟩)
    | (go_at_call 19; refine (cloneBytes_any b off n cap g _ (by omega) ht).mono ?_; rintro r w1 ⟨rfl, t1, b1, _⟩))
  refine (zzScan_cont _ 0 n n k e m f g _ (by omega) hk t1 C1.out HF.out).mono ?_
  rintro r w' ⟨rfl, rfl⟩
  go_wp2_with fail
  have t2 := t1.sub (k := k) (m := e - k) (by omega)
  rw [Nat.zero_add] at t2
  refine (zzScan_cont0 _ k (e - k) (n - k) (e - k) m f (fun t => g (k + t)) _ (by omega) (by omega) t2 C1.out H2.out).mono ?_
  rintro r w' ⟨rfl, rfl⟩
  go_wp2
  all_goals
    go_ret
    exact ⟨ret_b (by simp), b1⟩

set_option maxHeartbeats 2000000 in
theorem selfDel_scalar (b off n cap k : Nat) (g : Nat → Int) (w : World) (hn : n ≤ 1048576) (hk : k < n) (ht : Txt w b off n g) (c0 : g k ≠ 34) (c1 : g k ≠ 91) (c2 : g k ≠ 123) :
    Calls Try.prog 6 #[.slice (some ⟨b, off, none⟩) n cap, .int .i64 k] w fun r w' => r = .returned (.bool true) ∧ Below w.heap.size w w' := by
  have hd := okN_yes hn
  have hcb : compB g n k = true := compB_s c0 (by omega)
  have C : Hid (g k ≠ 34 ∧ g k ≠ 91 ∧ g k ≠ 123) := ⟨c0, c1, c2⟩
  clear c0 c1 c2
  go_enter Try.func6, Try.ntmps6
  go_wp2_with (first
    | (go_at_call 24; refine (zzBytes24_any _ n cap _ _ (by unfold maxLen; omega)).mono ?_; rintro r w' ⟨rfl, rfl⟩)
    | (go_at_call 18; refine (completeAt_in b off n cap k g _ hn hk ht).mono ?_; rintro r w' ⟨rfl, rfl⟩)
    | (go_at_call 19; refine (cloneBytes_any b off n cap g _ (by omega) ht).mono ?_; rintro r w1 ⟨rfl, t1, b1, _⟩))
  refine (zzScan_scalar _ 0 n n k g _ (by omega) hk t1 C.out.1 C.out.2.1 C.out.2.2).mono ?_
  rintro r w' ⟨e, rfl, hS, rfl⟩
  have HS : Hid (Scal g n k e) := hS
  have he1 : k ≤ e := hS.1
  have he2 : e ≤ n := hS.2.1
  clear hS
  by_cases hek : e = k
  · subst hek
    have hee : endB (g e) = true := by
      rcases HS.out.2.2.2 with h | h
      · omega
      · exact h
    have hc1 := t1 e hk
    rw [Nat.zero_add] at hc1
    go_wp2_with (go_at_call 23; refine (isScalarEnd_any (g e) _).mono ?_; rintro r w' ⟨rfl, rfl⟩)
    all_goals
      go_ret
      exact ⟨ret_b (by simp), b1⟩
  · have hlt : k < e := by omega
    have hx1 : decide (e ≤ k) = false := by simp; omega
    have hx2 : decide (n < e) = false := by simp; omega
    clear hek
    go_wp2_with fail
    have t2 := t1.sub (k := k) (m := e - k) (by omega)
    rw [Nat.zero_add] at t2
    refine (zzScan_scalar0 _ k (e - k) (n - k) (fun t => g (k + t)) _ (by omega) (by omega) t2 C.out.1 C.out.2.1 C.out.2.2 (fun t h => HS.out.2.2.1 (k + t) (by omega) (by omega))).mono ?_
    rintro r w' ⟨rfl, rfl⟩
    go_wp2
    all_goals
      go_ret
      exact ⟨ret_b (by simp), b1⟩

theorem selfDel_any (ao : Option Addr) (n cap : Nat) (i : Int) (g : Nat → Int) (w : World) (hn : n ≤ maxLen) (hi1 : -9223372036854775808 ≤ i) (hi2 : i ≤ 9223372036854775807) (hr : Row w ao n g) :
    Calls Try.prog 6 #[.slice ao n cap, .int .i64 i] w fun r w' => r = .returned (.bool true) ∧ Below w.heap.size w w' := by
  by_cases h : ¬ n ≤ 1048576 ∨ i < 0 ∨ (n : Int) ≤ i ∨ ∃ k : Nat, i = k ∧ k < n ∧ compB g n k = false
  · refine (selfDel_early ao n cap i g w hn hr h).mono ?_
    rintro r w' ⟨rfl, rfl⟩
    exact ⟨rfl, Below.refl _ _⟩
  · have h1 : n ≤ 1048576 := by omega
    obtain ⟨k, rfl⟩ : ∃ k : Nat, i = (k : Int) := ⟨i.toNat, by omega⟩
    have hk : k < n := by omega
    have hcb : compB g n k = true := by
      cases hc : compB g n k with
      | true => rfl
      | false => exact absurd (.inr (.inr (.inr ⟨k, rfl, hk, hc⟩))) h
    clear h
    rcases hr with h | ⟨b, off, rfl, ht⟩
    · omega
    by_cases c0 : g k = 34
    · rw [compB_q c0] at hcb
      obtain ⟨e, hs⟩ := Option.isSome_iff_exists.mp hcb
      exact selfDel_string b off n cap k e g w h1 hk ht c0 hs
    · by_cases c1 : g k = 91 ∨ g k = 123
      · rw [compB_o c1] at hcb
        obtain ⟨⟨e, m⟩, hs⟩ := Option.isSome_iff_exists.mp hcb
        exact selfDel_cont b off n cap k e m g w h1 hk ht c1 hs
      · exact selfDel_scalar b off n cap k g w h1 hk ht c0 (fun h => c1 (.inl h)) (fun h => c1 (.inr h))

end Go.Proofs.Qxb6603378a
