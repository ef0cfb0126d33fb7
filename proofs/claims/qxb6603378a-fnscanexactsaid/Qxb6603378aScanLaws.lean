/-
  THE WALKS of FnScanExact and FnScanSelfDelimited.
-/
import Derived.Test.Qxb6603378aComp
namespace Go.Proofs.Qxb6603378a
open Go.RowKit Plain
set_option linter.unusedVariables false

set_option maxHeartbeats 2000000 in
/-- The ways on which FnScanExact returns ahead of the copy. -/
theorem scanExact_early (ao : Option Addr) (n cap : Nat) (i : Int) (g : Nat → Int) (w : World) (hn : n ≤ maxLen) (hr : Row w ao n g)
    (h : ¬ n ≤ 1048576 ∨ i < 0 ∨ (n : Int) ≤ i ∨ ∃ k : Nat, i = k ∧ k < n ∧ compB g n k = false) :
    Calls Try.prog 5 #[.slice ao n cap, .int .i64 i] w fun r w' => r = .returned (.bool true) ∧ w' = w := by
  by_cases hb : n ≤ 1048576
  · have hd := okN_yes hb
    by_cases h0 : i < 0 ∨ (n : Int) ≤ i
    · have H0 : Hid (i < 0 ∨ (n : Int) ≤ i) := h0
      clear h h0
      go_enter Try.func5, Try.ntmps5
      go_wp2_with (first
        | (go_at_call 17; refine (zzBytes17_any ao n cap i _ hn).mono ?_; rintro r w' ⟨rfl, rfl⟩)
        | (go_at_call 18; refine (completeAt_out ao n cap i _ hb H0.out).mono ?_; rintro r w' ⟨rfl, rfl⟩))
      go_ret
      exact ⟨rfl, rfl⟩
    · obtain ⟨k, rfl, hk, hcb⟩ : ∃ k : Nat, i = k ∧ k < n ∧ compB g n k = false := by
        rcases h with h | h | h | h
        · exact absurd hb h
        · exact absurd (.inl h) h0
        · exact absurd (.inr h) h0
        · exact h
      rcases hr with h | ⟨b, off, rfl, ht⟩
      · omega
      clear h0
      go_enter Try.func5, Try.ntmps5
      go_wp2_with (first
        | (go_at_call 17; refine (zzBytes17_any _ n cap _ _ hn).mono ?_; rintro r w' ⟨rfl, rfl⟩)
        | (go_at_call 18; refine (completeAt_in b off n cap k g _ hb hk ht).mono ?_; rintro r w' ⟨rfl, rfl⟩))
      go_ret
      exact ⟨rfl, rfl⟩
  · have hd := okN_no hb
    clear h
    go_enter Try.func5, Try.ntmps5
    go_wp2_with (go_at_call 17; refine (zzBytes17_any ao n cap i _ hn).mono ?_; rintro r w' ⟨rfl, rfl⟩)
    go_ret
    exact ⟨rfl, rfl⟩

set_option maxHeartbeats 2000000 in
theorem scanExact_string (b off n cap k e : Nat) (g : Nat → Int) (w : World) (hn : n ≤ 1048576) (hk : k < n) (ht : Txt w b off n g) (c0 : g k = 34) (hs : strModel g n k = some e) :
    Calls Try.prog 5 #[.slice (some ⟨b, off, none⟩) n cap, .int .i64 k] w fun r w' => r = .returned (.bool true) ∧ Below w.heap.size w w' := by
  have hd := okN_yes hn
  have HS : Hid (strModel g n k = some e) := hs
  have hcb : compB g n k = true := by rw [compB_q c0, hs]; rfl
  have hse : Hid (se g n n (k + 1) = some e) := se_strModel hs (by omega)
  have C0 : Hid (g k = 34) := c0
  have c0' : (g k == 34) = true := by simpa using c0
  clear hs c0
  go_enter Try.func5, Try.ntmps5
  go_wp2_with (first
    | (go_at_call 17; refine (zzBytes17_any _ n cap _ _ (by unfold maxLen; omega)).mono ?_; rintro r w' ⟨rfl, rfl⟩)
    | (go_at_call 18; refine (completeAt_in b off n cap k g _ hn hk ht).mono ?_; rintro r w' ⟨rfl, rfl⟩)
    | (go_at_call 19; refine (cloneBytes_any b off n cap g _ (by omega) ht).mono ?_; rintro r w1 ⟨rfl, t1, b1, _⟩; have hc1 := t1 k hk; rw [Nat.zero_add] at hc1)
    | (go_at_call 20; refine (zzScan_string _ 0 n n k e g _ (by omega) hk t1 C0.out hse.out).mono ?_; rintro r w' ⟨rfl, rfl⟩)
    | (go_at_call 21; refine (stringModel_any _ 0 n n k g _ (by omega) hk t1).mono ?_; rintro r w' ⟨rfl, rfl⟩; rw [HS.out]; unfold smRet))
  go_ret
  exact ⟨ret_b (by simp), b1⟩

set_option maxHeartbeats 2000000 in
theorem scanExact_cont (b off n cap k e m : Nat) (g : Nat → Int) (w : World) (hn : n ≤ 1048576) (hk : k < n) (ht : Txt w b off n g) (c1 : g k = 91 ∨ g k = 123) (hs : cont g n (k + 1) 0 = some (e, m)) :
    Calls Try.prog 5 #[.slice (some ⟨b, off, none⟩) n cap, .int .i64 k] w fun r w' => r = .returned (.bool true) ∧ Below w.heap.size w w' := by
  have hd := okN_yes hn
  have HS : Hid (cont g n (k + 1) 0 = some (e, m)) := hs
  have hcb : compB g n k = true := by rw [compB_o c1, hs]; rfl
  obtain ⟨f, hf⟩ := sc_cont hk c1 hs
  have HF : Hid (sc g n f k 0 0 = some (e, m)) := hf
  have C1 : Hid (g k = 91 ∨ g k = 123) := c1
  have c0' : (g k == 34) = false := by simp; omega
  clear hs hf
  rcases c1 with c1 | c1
  · have c1' : (g k == 91) = true := by simpa using c1
    clear c1
    go_enter Try.func5, Try.ntmps5
    go_wp2_with (first
      | (go_at_call 17; refine (zzBytes17_any _ n cap _ _ (by unfold maxLen; omega)).mono ?_; rintro r w' ⟨rfl, rfl⟩)
      | (go_at_call 18; refine (completeAt_in b off n cap k g _ hn hk ht).mono ?_; rintro r w' ⟨rfl, rfl⟩)
      | (go_at_call 19; refine (cloneBytes_any b off n cap g _ (by omega) ht).mono ?_; rintro r w1 ⟨rfl, t1, b1, _⟩; have hc1 := t1 k hk; rw [Nat.zero_add] at hc1)
      | (go_at_call 20; refine (zzScan_cont _ 0 n n k e m f g _ (by omega) hk t1 C1.out HF.out).mono ?_; rintro r w' ⟨rfl, rfl⟩)
      | (go_at_call 22; refine (containerModel_any _ 0 n n g _ (by omega) t1 n k (by omega) hk).mono ?_; rintro r w' ⟨rfl, rfl⟩; rw [HS.out]; unfold cmRet))
    go_ret
    exact ⟨ret_b (by simp), b1⟩
  · have c1' : (g k == 91) = false := by simp; omega
    have c2' : (g k == 123) = true := by simpa using c1
    clear c1
    go_enter Try.func5, Try.ntmps5
    go_wp2_with (first
      | (go_at_call 17; refine (zzBytes17_any _ n cap _ _ (by unfold maxLen; omega)).mono ?_; rintro r w' ⟨rfl, rfl⟩)
      | (go_at_call 18; refine (completeAt_in b off n cap k g _ hn hk ht).mono ?_; rintro r w' ⟨rfl, rfl⟩)
      | (go_at_call 19; refine (cloneBytes_any b off n cap g _ (by omega) ht).mono ?_; rintro r w1 ⟨rfl, t1, b1, _⟩; have hc1 := t1 k hk; rw [Nat.zero_add] at hc1)
      | (go_at_call 20; refine (zzScan_cont _ 0 n n k e m f g _ (by omega) hk t1 C1.out HF.out).mono ?_; rintro r w' ⟨rfl, rfl⟩)
      | (go_at_call 22; refine (containerModel_any _ 0 n n g _ (by omega) t1 n k (by omega) hk).mono ?_; rintro r w' ⟨rfl, rfl⟩; rw [HS.out]; unfold cmRet))
    go_ret
    exact ⟨ret_b (by simp), b1⟩

set_option maxHeartbeats 2000000 in
theorem scanExact_scalar (b off n cap k : Nat) (g : Nat → Int) (w : World) (hn : n ≤ 1048576) (hk : k < n) (ht : Txt w b off n g) (c0 : g k ≠ 34) (c1 : g k ≠ 91) (c2 : g k ≠ 123) :
    Calls Try.prog 5 #[.slice (some ⟨b, off, none⟩) n cap, .int .i64 k] w fun r w' => r = .returned (.bool true) ∧ Below w.heap.size w w' := by
  have hd := okN_yes hn
  have hcb : compB g n k = true := compB_s c0 (by omega)
  have C : Hid (g k ≠ 34 ∧ g k ≠ 91 ∧ g k ≠ 123) := ⟨c0, c1, c2⟩
  have c0' : (g k == 34) = false := by simpa using c0
  have c1' : (g k == 91) = false := by simpa using c1
  have c2' : (g k == 123) = false := by simpa using c2
  clear c0 c1 c2
  go_enter Try.func5, Try.ntmps5
  go_wp2_with (first
    | (go_at_call 17; refine (zzBytes17_any _ n cap _ _ (by unfold maxLen; omega)).mono ?_; rintro r w' ⟨rfl, rfl⟩)
    | (go_at_call 18; refine (completeAt_in b off n cap k g _ hn hk ht).mono ?_; rintro r w' ⟨rfl, rfl⟩)
    | (go_at_call 19; refine (cloneBytes_any b off n cap g _ (by omega) ht).mono ?_; rintro r w1 ⟨rfl, t1, b1, _⟩; have hc1 := t1 k hk; rw [Nat.zero_add] at hc1)
    | (go_at_call 20; refine (zzScan_scalar _ 0 n n k g _ (by omega) hk t1 C.out.1 C.out.2.1 C.out.2.2).mono ?_; rintro r w' ⟨e, rfl, hS, rfl⟩; have HS : Hid (Scal g n k e) := hS; have he1 : k ≤ e := hS.1; have he2 : e ≤ n := hS.2.1; have hx1 : decide (e < k) = false := (by simp; omega); have hx2 : decide (n < e) = false := (by simp; omega); clear hS))
  go_loop [4, 13] (fun q s => ∃ t : Nat, q = .bool false ∧ s = .int .i64 t ∧ Hid (k ≤ t ∧ t ≤ e)) (fun _ s => e - (intOf s).toNat)
  case atStart => exact ⟨k, rfl, rfl, Nat.le_refl _, he1⟩
  case round =>
    obtain ⟨t, rfl, rfl, HT⟩ := hrel
    have hkt : k ≤ t := HT.out.1
    have hte : t ≤ e := HT.out.2
    by_cases hlt : t < e
    · have hct := t1 t (by omega)
      rw [Nat.zero_add] at hct
      have hee : endB (g t) = false := HS.out.2.2.1 t hkt hlt
      go_wp2_with (go_at_call 23; refine (isScalarEnd_any (g t) _).mono ?_; rintro r w' ⟨rfl, rfl⟩)
      go_round
      case rel => exact ⟨t + 1, rfl, by go_num, by show _ ∧ _; omega⟩
      case measure => simp [intOf]; omega
    · by_cases hen : e = n
      · have hq : ((e : Int) == (n : Int)) = true := by simp; omega
        clear hen
        go_wp2_with fail
        go_ret
        exact ⟨rfl, b1⟩
      · have hq : ((e : Int) == (n : Int)) = false := by simp; omega
        have hct := t1 e (by omega)
        rw [Nat.zero_add] at hct
        have hee : endB (g e) = true := by rcases HS.out.2.2.2 with h | h; exact absurd h hen; exact h
        clear hen
        have hlt2 : e < n := by simp at hq; omega
        go_wp2_with (go_at_call 23; refine (isScalarEnd_any (g e) _).mono ?_; rintro r w' ⟨rfl, rfl⟩)
        go_ret
        exact ⟨rfl, b1⟩

theorem scanExact_any (ao : Option Addr) (n cap : Nat) (i : Int) (g : Nat → Int) (w : World) (hn : n ≤ maxLen) (hi1 : -9223372036854775808 ≤ i) (hi2 : i ≤ 9223372036854775807) (hr : Row w ao n g) :
    Calls Try.prog 5 #[.slice ao n cap, .int .i64 i] w fun r w' => r = .returned (.bool true) ∧ Below w.heap.size w w' := by
  by_cases h : ¬ n ≤ 1048576 ∨ i < 0 ∨ (n : Int) ≤ i ∨ ∃ k : Nat, i = k ∧ k < n ∧ compB g n k = false
  · refine (scanExact_early ao n cap i g w hn hr h).mono ?_
    rintro r w' ⟨rfl, rfl⟩
    exact ⟨rfl, Below.refl _ _⟩
  · have h1 : n ≤ 1048576 := by omega
    obtain ⟨k, rfl⟩ : ∃ k : Nat, i = (k : Int) := ⟨i.toNat, by omega⟩
    have hk : k < n := by omega
    have hcb : compB g n k = true := by
      cases hc : compB g n k with
      | true => rfl
      | false => exact absurd (.inr (.inr (.inr ⟨k, rfl, hk, hc⟩))) h
    clear h
    rcases hr with h | ⟨b, off, rfl, ht⟩
    · omega
    by_cases c0 : g k = 34
    · rw [compB_q c0] at hcb
      obtain ⟨e, hs⟩ := Option.isSome_iff_exists.mp hcb
      exact scanExact_string b off n cap k e g w h1 hk ht c0 hs
    · by_cases c1 : g k = 91 ∨ g k = 123
      · rw [compB_o c1] at hcb
        obtain ⟨⟨e, m⟩, hs⟩ := Option.isSome_iff_exists.mp hcb
        exact scanExact_cont b off n cap k e m g w h1 hk ht c1 hs
      · exact scanExact_scalar b off n cap k g w h1 hk ht c0 (fun h => c1 (.inl h)) (fun h => c1 (.inr h))

end Go.Proofs.Qxb6603378a
