/-
  THE WALK of containerModel, by induction on what is left of the text.
-/
import Derived.Test.Qxb6603378aModel
namespace Go.Proofs.Qxb6603378a
open Go.RowKit Plain
set_option linter.unusedVariables false

/-- containerModel's answer as a value. -/
def cmRet : Option (Nat × Nat) → Value
  | some r => .tuple #[.int .i64 r.1, .int .i64 r.2, .bool true]
  | none => .tuple #[.int .i64 0, .int .i64 0, .bool false]

set_option maxHeartbeats 2000000 in
theorem containerModel_any (b off n cap : Nat) (g : Nat → Int) (w : World) (hn : n ≤ 1099511627776) (ht : Txt w b off n g) (d : Nat) : ∀ j : Nat, n ≤ j + d → j < n →
    Calls Try.prog 22 #[.slice (some ⟨b, off, none⟩) n cap, .int .i64 j] w fun r w' => r = .returned (cmRet (cont g n (j + 1) 0)) ∧ w' = w := by
  induction d with
  | zero => intro j h1 h2; omega
  | succ d ih =>
    intro j hjd hjn
    have IH : Hid (∀ j : Nat, n ≤ j + d → j < n →
      Calls Try.prog 22 #[.slice (some ⟨b, off, none⟩) n cap, .int .i64 j] w fun r w' => r = .returned (cmRet (cont g n (j + 1) 0)) ∧ w' = w) := ih
    clear ih
    go_enter Try.func22, Try.ntmps22
    go_wp2_with fail
    go_loop [7, 8] (fun s t => ∃ inner k : Nat, j < k ∧ k ≤ n ∧ inner ≤ k ∧ s = .int .i64 inner ∧ t = .int .i64 k ∧ Hid (cont g n (j + 1) 0 = cont g n k inner)) (fun _ t => n - (intOf t).toNat)
    case atStart => exact ⟨0, j + 1, by omega, by omega, by omega, rfl, by go_num, rfl⟩
    case round =>
      obtain ⟨inner, k, hjk, hkn, hik, rfl, rfl, HC⟩ := hrel
      by_cases hlt : k < n
      · have hc := ht k hlt
        by_cases c0 : g k = 34
        · have HC2 : Hid (cont g n (j + 1) 0 = (strModel g n k).bind fun e => cont g n e inner) := HC.out.trans (cont_quote hlt c0)
          cases hs : strModel g n k with
          | none =>
            have HS : Hid (strModel g n k = none) := hs
            have H3 : Hid (cont g n (j + 1) 0 = none) := by show _ = _; rw [HC2.out, hs]; rfl
            clear hs
            go_wp2_with (go_at_call 21; refine (stringModel_any b off n cap k g _ hn hlt ht).mono ?_; rintro r w' ⟨rfl, rfl⟩; rw [HS.out]; unfold smRet)
            go_ret3
            exact ⟨ret_val (by rw [H3.out]; rfl), rfl⟩
          | some e =>
            have HS : Hid (strModel g n k = some e) := hs
            have H3 : Hid (cont g n (j + 1) 0 = cont g n e inner) := by show _ = _; rw [HC2.out, hs]; rfl
            have he := strModel_some hs
            have he1 : k + 1 < e := he.1
            have he2 : e ≤ n := he.2.1
            clear hs he
            go_wp2_with (go_at_call 21; refine (stringModel_any b off n cap k g _ hn hlt ht).mono ?_; rintro r w' ⟨rfl, rfl⟩; rw [HS.out]; unfold smRet)
            go_round
            case rel => exact ⟨inner, e, by omega, by omega, by omega, rfl, rfl, H3⟩
            case measure => simp [intOf]; omega
        · have d0 : (g k == 34) = false := by simpa using c0
          by_cases c1 : g k = 91 ∨ g k = 123
          · have HC2 : Hid (cont g n (j + 1) 0 = (cont g n (k + 1) 0).bind fun r => cont g n r.1 (max inner r.2)) := HC.out.trans (cont_open hlt c1)
            rcases c1 with c1 | c1
            all_goals
              cases hs : cont g n (k + 1) 0 with
              | none =>
                have HS : Hid (cont g n (k + 1) 0 = none) := hs
                have H3 : Hid (cont g n (j + 1) 0 = none) := by show _ = _; rw [HC2.out, hs]; rfl
                clear hs
                go_wp2_with (go_at_call 22; refine (IH.out k (by omega) hlt).mono ?_; rintro r w' ⟨rfl, rfl⟩; rw [HS.out]; unfold cmRet)
                go_ret3
                exact ⟨ret_val (by rw [H3.out]; rfl), rfl⟩
              | some r =>
                obtain ⟨e, m⟩ := r
                have HS : Hid (cont g n (k + 1) 0 = some (e, m)) := hs
                have H3 : Hid (cont g n (j + 1) 0 = cont g n e (max inner m)) := by show _ = _; rw [HC2.out, hs]; rfl
                have he := cont_some hs
                have hm := cont_depth hs
                simp only at he hm
                have he1 : k < e := by omega
                have he2 : e ≤ n := he.2.1
                have hm1 : m ≤ e := by omega
                clear hs he hm
                by_cases hgt : inner < m
                · have HM : Hid (max inner m = m) := by show _ = _; omega
                  go_wp2_with (go_at_call 22; refine (IH.out k (by omega) hlt).mono ?_; rintro r w' ⟨rfl, rfl⟩; rw [HS.out]; unfold cmRet)
                  go_round
                  case rel => exact ⟨m, e, by omega, by omega, by omega, rfl, rfl, by rw [HM.out] at H3; exact H3⟩
                  case measure => simp [intOf]; omega
                · have HM : Hid (max inner m = inner) := by show _ = _; omega
                  go_wp2_with (go_at_call 22; refine (IH.out k (by omega) hlt).mono ?_; rintro r w' ⟨rfl, rfl⟩; rw [HS.out]; unfold cmRet)
                  go_round
                  case rel => exact ⟨inner, e, by omega, by omega, by omega, rfl, rfl, by rw [HM.out] at H3; exact H3⟩
                  case measure => simp [intOf]; omega
          · have c1a : g k ≠ 91 := fun h => c1 (.inl h)
            have c1b : g k ≠ 123 := fun h => c1 (.inr h)
            have d1 : (g k == 91) = false := by simpa using c1a
            have d2 : (g k == 123) = false := by simpa using c1b
            clear c1
            by_cases c2 : g k = 93 ∨ g k = 125
            · have H3 : Hid (cont g n (j + 1) 0 = some (k + 1, inner + 1)) := HC.out.trans (cont_close hlt c2)
              rcases c2 with c2 | c2
              all_goals
                go_wp2_with fail
                go_ret3
                exact ⟨ret_val (by rw [H3.out]; rfl), rfl⟩
            · have c2a : g k ≠ 93 := fun h => c2 (.inl h)
              have c2b : g k ≠ 125 := fun h => c2 (.inr h)
              have d3 : (g k == 93) = false := by simpa using c2a
              have d4 : (g k == 125) = false := by simpa using c2b
              have H3 : Hid (cont g n (j + 1) 0 = cont g n (k + 1) inner) := HC.out.trans (cont_other hlt c0 c1a c1b c2a c2b)
              clear c2 c0 c1a c1b c2a c2b
              go_wp2_with fail
              go_round
              case rel => exact ⟨inner, k + 1, by omega, by omega, by omega, rfl, by go_num, H3⟩
              case measure => simp [intOf]; omega
      · have H3 : Hid (cont g n (j + 1) 0 = none) := HC.out.trans (cont_off (by omega))
        go_wp2_with fail
        go_ret3
        exact ⟨ret_val (by rw [H3.out]; rfl), rfl⟩

end Go.Proofs.Qxb6603378a
