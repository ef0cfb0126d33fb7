/-
  THE WALKS of isSpace, isScalarEnd, scan, ZZScan.
-/
import Derived.Test.Qxb6603378aCont
import Derived.WalkLawsBesides
namespace Go.Proofs.Qxb6603378a
open Go.RowKit Plain
set_option linter.unusedVariables false

theorem ret_b {a b : Bool} (h : a = b) : Ending.returned (.bool a) = .returned (.bool b) := by rw [h]

set_option maxHeartbeats 400000 in
theorem isSpace_any (c : Int) (w : World) : Calls Try.prog 33 #[.int .u8 c] w fun r w' => r = .returned (.bool (spB c)) ∧ w' = w := by
  go_enter Try.func33, Try.ntmps33
  go_wp2
  all_goals
    go_ret
    exact ⟨ret_b (by simp [spB, *]), rfl⟩

set_option maxHeartbeats 400000 in
theorem isScalarEnd_any (c : Int) (w : World) : Calls Try.prog 23 #[.int .u8 c] w fun r w' => r = .returned (.bool (endB c)) ∧ w' = w := by
  go_enter Try.func23, Try.ntmps23
  go_wp2
  all_goals
    go_ret
    exact ⟨ret_b (by simp [endB, spB, *]), rfl⟩

set_option maxHeartbeats 1000000 in
theorem scan_string (b off n cap i e : Nat) (g : Nat → Int) (w : World) (hn : n ≤ 1099511627776) (hi : i < n) (ht : Txt w b off n g) (c0 : g i = 34) (hs : se g n n (i + 1) = some e) :
    Calls Try.prog 31 #[.slice (some ⟨b, off, none⟩) n cap, .int .i64 i] w fun r w' => r = .returned (.tuple #[.int .i64 e, .int .i64 0]) ∧ w' = w := by
  have hc := ht i hi
  have HS : Hid (se g n n (i + 1) = some e) := hs
  clear hs
  go_enter Try.func31, Try.ntmps31
  go_wp2_with (go_at_call 32; refine (stringEnd_any b off n cap i e n g _ hn ht HS.out).mono ?_; rintro r w' ⟨rfl, rfl⟩)
  go_ret2
  exact ⟨rfl, rfl⟩

set_option maxHeartbeats 1000000 in
theorem scan_scalar (b off n cap i : Nat) (g : Nat → Int) (w : World) (hn : n ≤ 1099511627776) (hi : i < n) (ht : Txt w b off n g) (c0 : g i ≠ 34) (c1 : g i ≠ 91) (c2 : g i ≠ 123) :
    Calls Try.prog 31 #[.slice (some ⟨b, off, none⟩) n cap, .int .i64 i] w fun r w' => ∃ e : Nat, r = .returned (.tuple #[.int .i64 e, .int .i64 0]) ∧ Scal g n i e ∧ w' = w := by
  have hc := ht i hi
  have d0 : (g i == 34) = false := by simpa using c0
  have d1 : (g i == 91) = false := by simpa using c1
  have d2 : (g i == 123) = false := by simpa using c2
  clear c0 c1 c2
  go_enter Try.func31, Try.ntmps31
  go_wp2_with fail
  clear d0 d1 d2 hc
  go_loop [1] (fun s => ∃ k : Nat, i ≤ k ∧ k ≤ n ∧ s = .int .i64 k ∧ Hid (∀ t, i ≤ t → t < k → endB (g t) = false)) (fun s => n - (intOf s).toNat)
  case atStart => exact ⟨i, Nat.le_refl _, by omega, rfl, fun t a b => by omega⟩
  case round =>
    obtain ⟨k, hik, hkn, rfl, HK⟩ := hrel
    by_cases hlt : k < n
    · have hc := ht k hlt
      by_cases ce : endB (g k) = true
      · have HE : Hid (Scal g n i k) := ⟨hik, hkn, HK.out, .inr ce⟩
        by_cases hsp : spB (g k) = true
        · clear ce
          go_wp2_with (go_at_call 33; refine (isSpace_any (g k) _).mono ?_; rintro r w' ⟨rfl, rfl⟩)
          go_ret2
          exact ⟨k, rfl, HE, rfl⟩
        · have hsp' : spB (g k) = false := by simpa using hsp
          have hor : g k = 44 ∨ (g k ≠ 44 ∧ g k = 93) ∨ (g k ≠ 44 ∧ g k ≠ 93 ∧ g k = 125) := by
            simp [endB, hsp'] at ce; omega
          clear ce hsp
          rcases hor with h | ⟨h1, h⟩ | ⟨h1, h2, h⟩
          · have e1 : (g k != 44) = false := by simpa using h
            clear h
            go_wp2_with (go_at_call 33; refine (isSpace_any (g k) _).mono ?_; rintro r w' ⟨rfl, rfl⟩)
            go_ret2
            exact ⟨k, rfl, HE, rfl⟩
          · have e1 : (g k != 44) = true := by simpa using h1
            have e2 : (g k != 93) = false := by simpa using h
            clear h h1
            go_wp2_with (go_at_call 33; refine (isSpace_any (g k) _).mono ?_; rintro r w' ⟨rfl, rfl⟩)
            go_ret2
            exact ⟨k, rfl, HE, rfl⟩
          · have e1 : (g k != 44) = true := by simpa using h1
            have e2 : (g k != 93) = true := by simpa using h2
            have e3 : (g k != 125) = false := by simpa using h
            clear h h1 h2
            go_wp2_with (go_at_call 33; refine (isSpace_any (g k) _).mono ?_; rintro r w' ⟨rfl, rfl⟩)
            go_ret2
            exact ⟨k, rfl, HE, rfl⟩
      · have HE : Hid (∀ t, i ≤ t → t < k + 1 → endB (g t) = false) := fun t a b => by
          by_cases e : t = k
          · subst e; simpa using ce
          · exact HK.out t a (by omega)
        have hsp' : spB (g k) = false := by simp [endB] at ce; simp [ce]
        have hx : g k ≠ 44 ∧ g k ≠ 93 ∧ g k ≠ 125 := by simp [endB] at ce; omega
        have e1 : (g k != 44) = true := by simpa using hx.1
        have e2 : (g k != 93) = true := by simpa using hx.2.1
        have e3 : (g k != 125) = true := by simpa using hx.2.2
        clear ce hx
        go_wp2_with (go_at_call 33; refine (isSpace_any (g k) _).mono ?_; rintro r w' ⟨rfl, rfl⟩)
        go_round
        case rel => exact ⟨k + 1, by omega, by omega, by go_num, HE⟩
        case measure => simp [intOf]; omega
    · have HE : Hid (Scal g n i k) := ⟨hik, hkn, HK.out, .inl (by omega)⟩
      have hd : decide ((k : Int) < (n : Int)) = false := by simp; omega
      go_wp2_with fail
      go_ret2
      exact ⟨k, rfl, HE, rfl⟩

theorem int_max (d o : Nat) : (if (d : Int) < (o : Int) + 1 then (o : Int) + 1 else (d : Int)) = ((max d (o + 1) : Nat) : Int) := by split <;> omega

set_option maxHeartbeats 2000000 in
theorem scan_cont (b off n cap i e m f : Nat) (g : Nat → Int) (w : World) (hn : n ≤ 1099511627776) (hi : i < n) (ht : Txt w b off n g) (hg : g i = 91 ∨ g i = 123) (hs : sc g n f i 0 0 = some (e, m)) :
    Calls Try.prog 31 #[.slice (some ⟨b, off, none⟩) n cap, .int .i64 i] w fun r w' => r = .returned (.tuple #[.int .i64 e, .int .i64 m]) ∧ w' = w := by
  have hc := ht i hi
  have HS : Hid (sc g n f i 0 0 = some (e, m)) := hs
  have HG : Hid (g i = 91 ∨ g i = 123) := hg
  clear hs
  rcases hg with c | c
  all_goals
    go_enter Try.func31, Try.ntmps31
    go_wp2_with fail
    clear c hc
    go_loop [1, 5, 6] (fun s t u => ∃ p d o f : Nat, p < n ∧ d ≤ p ∧ o ≤ p ∧ s = .int .i64 p ∧ t = .int .i64 d ∧ u = .int .i64 o ∧ Hid (1 ≤ o ∨ g p = 91 ∨ g p = 123) ∧ Hid (sc g n f p o d = some (e, m))) (fun s _ _ => n - (intOf s).toNat)
    case atStart => exact ⟨i, 0, 0, f, hi, Nat.zero_le _, Nat.zero_le _, rfl, rfl, rfl, .inr HG.out, HS⟩
    case round =>
      obtain ⟨p, d, o, f, hp, hdp, hop, rfl, rfl, rfl, HO, HS⟩ := hrel
      have hc := ht p hp
      by_cases c0 : g p = 34
      · obtain ⟨e2, f2, h1, h2⟩ := sc_quote HS.out c0
        have H1 : Hid (se g n n (p + 1) = some e2) := h1
        have H2 : Hid (sc g n f2 e2 o d = some (e, m)) := h2
        have hb := se_some h1
        have hb2 := sc_some h2
        have he1 : p + 1 < e2 := hb.1
        have he2 : e2 < n := by have := hb2.1; have := hb2.2; omega
        have HO2 : Hid (1 ≤ o) := by rcases HO.out with h | h | h <;> first | exact h | omega
        clear h1 h2 hb hb2
        go_wp2_with (go_at_call 32; refine (stringEnd_any b off n cap p e2 n g _ hn ht H1.out).mono ?_; rintro r w' ⟨rfl, rfl⟩)
        go_round
        case rel => exact ⟨e2, d, o, f2, he2, by omega, by omega, by go_num, rfl, rfl, .inl HO2.out, H2⟩
        case measure => simp [intOf]; omega
      · have d0 : (g p == 34) = false := by simpa using c0
        by_cases c1 : g p = 91 ∨ g p = 123
        · obtain ⟨f2, h2⟩ := sc_open HS.out c1
          have H2 : Hid (sc g n f2 (p + 1) (o + 1) (max d (o + 1)) = some (e, m)) := h2
          have he2 : p + 1 < n := by have := sc_some h2; simp only at this; omega
          clear h2
          rcases c1 with c1 | c1
          all_goals
            go_wp2_with fail
            go_round
            case rel => exact ⟨p + 1, max d (o + 1), o + 1, f2, he2, by omega, by omega, by go_num, by rw [int_max], by go_num, .inl (by omega), H2⟩
            case measure => simp [intOf]; omega
        · have c1a : g p ≠ 91 := fun h => c1 (.inl h)
          have c1b : g p ≠ 123 := fun h => c1 (.inr h)
          have d1 : (g p == 91) = false := by simpa using c1a
          have d2 : (g p == 123) = false := by simpa using c1b
          have ho1 : 1 ≤ o := by rcases HO.out with h | h | h <;> first | exact h | (exfalso; exact c1a h) | (exfalso; exact c1b h)
          by_cases c2 : g p = 93 ∨ g p = 125
          · by_cases ho : o = 1
            · subst ho
              have hr := sc_last HS.out c2
              have HR : Hid (e = p + 1 ∧ m = d) := by show _ ∧ _; simpa using hr
              clear hr c1 c1a c1b c0
              rcases c2 with c2 | c2
              all_goals
                go_wp2_with fail
                go_ret2
                obtain ⟨rfl, rfl⟩ := HR.out
                exact ⟨rfl, rfl⟩
            · obtain ⟨f2, h2⟩ := sc_close HS.out c2 ho
              have H2 : Hid (sc g n f2 (p + 1) (o - 1) d = some (e, m)) := h2
              have he2 : p + 1 < n := by have := sc_some h2; simp only at this; omega
              have ho2 : 1 < o := by omega
              have ho3 : ((o : Int) - 1 == 0) = false := by simp; omega
              clear h2 ho c1 c1a c1b c0
              rcases c2 with c2 | c2
              all_goals
                go_wp2_with fail
                go_round
                case rel => exact ⟨p + 1, d, o - 1, f2, he2, by omega, by omega, by go_num, rfl, by go_num, .inl (by omega), H2⟩
                case measure => simp [intOf]; omega
          · have c2a : g p ≠ 93 := fun h => c2 (.inl h)
            have c2b : g p ≠ 125 := fun h => c2 (.inr h)
            have d3 : (g p == 93) = false := by simpa using c2a
            have d4 : (g p == 125) = false := by simpa using c2b
            obtain ⟨f2, h2⟩ := sc_other HS.out c0 c1a c1b c2a c2b
            have H2 : Hid (sc g n f2 (p + 1) o d = some (e, m)) := h2
            have he2 : p + 1 < n := by have := sc_some h2; simp only at this; omega
            clear h2 c0 c1 c1a c1b c2 c2a c2b
            go_wp2_with fail
            go_round
            case rel => exact ⟨p + 1, d, o, f2, he2, by omega, by omega, by go_num, rfl, rfl, .inl ho1, H2⟩
            case measure => simp [intOf]; omega

/-! ### ZZScan -/
theorem zzScan_string (b off n cap i e : Nat) (g : Nat → Int) (w : World) (hn : n ≤ 1099511627776) (hi : i < n) (ht : Txt w b off n g) (c0 : g i = 34) (hs : se g n n (i + 1) = some e) :
    Calls Try.prog 20 #[.slice (some ⟨b, off, none⟩) n cap, .int .i64 i] w fun r w' => r = .returned (.tuple #[.int .i64 e, .int .i64 0]) ∧ w' = w := by
  have HS : Hid (se g n n (i + 1) = some e ∧ g i = 34) := ⟨hs, c0⟩
  clear hs c0
  go_enter Try.func20, Try.ntmps20
  go_wp2_with (go_at_call 31; refine (scan_string b off n cap i e g _ hn hi ht HS.out.2 HS.out.1).mono ?_; rintro r w' ⟨rfl, rfl⟩)
  go_ret2
  exact ⟨rfl, rfl⟩

theorem zzScan_scalar (b off n cap i : Nat) (g : Nat → Int) (w : World) (hn : n ≤ 1099511627776) (hi : i < n) (ht : Txt w b off n g) (c0 : g i ≠ 34) (c1 : g i ≠ 91) (c2 : g i ≠ 123) :
    Calls Try.prog 20 #[.slice (some ⟨b, off, none⟩) n cap, .int .i64 i] w fun r w' => ∃ e : Nat, r = .returned (.tuple #[.int .i64 e, .int .i64 0]) ∧ Scal g n i e ∧ w' = w := by
  go_enter Try.func20, Try.ntmps20
  go_wp2_with (go_at_call 31; refine (scan_scalar b off n cap i g _ hn hi ht c0 c1 c2).mono ?_; rintro r w' ⟨e, rfl, hS, rfl⟩)
  go_ret2
  exact ⟨e, rfl, hS, rfl⟩

theorem zzScan_cont (b off n cap i e m f : Nat) (g : Nat → Int) (w : World) (hn : n ≤ 1099511627776) (hi : i < n) (ht : Txt w b off n g) (hg : g i = 91 ∨ g i = 123) (hs : sc g n f i 0 0 = some (e, m)) :
    Calls Try.prog 20 #[.slice (some ⟨b, off, none⟩) n cap, .int .i64 i] w fun r w' => r = .returned (.tuple #[.int .i64 e, .int .i64 m]) ∧ w' = w := by
  have HS : Hid (sc g n f i 0 0 = some (e, m)) := hs
  clear hs
  go_enter Try.func20, Try.ntmps20
  go_wp2_with (go_at_call 31; refine (scan_cont b off n cap i e m f g _ hn hi ht hg HS.out).mono ?_; rintro r w' ⟨rfl, rfl⟩)
  go_ret2
  exact ⟨rfl, rfl⟩

end Go.Proofs.Qxb6603378a
