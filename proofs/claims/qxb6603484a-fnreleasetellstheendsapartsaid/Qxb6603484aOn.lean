/-
  THE WALKS of onCircuit, cloneStrings.
-/
import Derived.Test.Qxb6603484aFits
namespace Go.Proofs.Qxb6603484a
open Go.RowKit
set_option linter.unusedVariables false

/-- m travels on c's circuit. -/
def OnC (c : RecD) (m : MsgD) : Prop := m.cic = c.cic ∧ ((m.opc = c.opc ∧ m.dpc = c.dpc) ∨ (m.opc = c.dpc ∧ m.dpc = c.opc))

set_option maxRecDepth 100000 in
set_option maxHeartbeats 2000000 in
theorem onCircuit_any (c : RecD) (m : MsgD) (w : World) : Calls Try.prog 7 #[.agg c.cells, .agg m.cells] w (Fit (OnC c m) w) := by
  have f1 : c.cells[1]? = some (.int .u32 c.opc) := rfl
  have f2 : c.cells[2]? = some (.int .u32 c.dpc) := rfl
  have f3 : c.cells[3]? = some (.int .u16 c.cic) := rfl
  have g2 : m.cells[2]? = some (.int .u32 m.opc) := rfl
  have g3 : m.cells[3]? = some (.int .u32 m.dpc) := rfl
  have g4 : m.cells[4]? = some (.int .u16 m.cic) := rfl
  by_cases c1 : m.cic = c.cic
  · have d1 : (m.cic != c.cic) = false := by simpa using c1
    by_cases c2 : m.opc = c.opc ∧ m.dpc = c.dpc
    · have d2 : (m.opc == c.opc) = true := by simpa using c2.1
      have d3 : (m.dpc == c.dpc) = true := by simpa using c2.2
      have HO : Hid (OnC c m) := ⟨c1, .inl c2⟩
      clear c1 c2
      go_enter Try.func7, Try.ntmps7
      go_wp2_with fail
      go_ret
      exact fit_yes _ _ _ HO.out
    · by_cases c3 : m.opc = c.dpc ∧ m.dpc = c.opc
      · have d4 : (m.opc == c.dpc) = true := by simpa using c3.1
        have d5 : (m.dpc == c.opc) = true := by simpa using c3.2
        have HO : Hid (OnC c m) := ⟨c1, .inr c3⟩
        by_cases c4 : m.opc = c.opc
        · have d2 : (m.opc == c.opc) = true := by simpa using c4
          have d3 : (m.dpc == c.dpc) = false := by simp; exact fun h => c2 ⟨c4, h⟩
          clear c1 c2 c3 c4
          go_enter Try.func7, Try.ntmps7
          go_wp2_with fail
          go_ret
          exact fit_yes _ _ _ HO.out
        · have d2 : (m.opc == c.opc) = false := by simpa using c4
          clear c1 c2 c3 c4
          go_enter Try.func7, Try.ntmps7
          go_wp2_with fail
          go_ret
          exact fit_yes _ _ _ HO.out
      · by_cases c4 : m.opc = c.opc
        · have d2 : (m.opc == c.opc) = true := by simpa using c4
          have d3 : (m.dpc == c.dpc) = false := by simp; exact fun h => c2 ⟨c4, h⟩
          by_cases c5 : m.opc = c.dpc
          · have d4 : (m.opc == c.dpc) = true := by simpa using c5
            have d5 : (m.dpc == c.opc) = false := by simp; exact fun h => c3 ⟨c5, h⟩
            clear c1 c2 c3 c4 c5
            go_enter Try.func7, Try.ntmps7
            go_wp2_with fail
            go_ret
            exact fit_no _ _ _ _
          · have d4 : (m.opc == c.dpc) = false := by simpa using c5
            clear c1 c2 c3 c4 c5
            go_enter Try.func7, Try.ntmps7
            go_wp2_with fail
            go_ret
            exact fit_no _ _ _ _
        · have d2 : (m.opc == c.opc) = false := by simpa using c4
          by_cases c5 : m.opc = c.dpc
          · have d4 : (m.opc == c.dpc) = true := by simpa using c5
            have d5 : (m.dpc == c.opc) = false := by simp; exact fun h => c3 ⟨c5, h⟩
            clear c1 c2 c3 c4 c5
            go_enter Try.func7, Try.ntmps7
            go_wp2_with fail
            go_ret
            exact fit_no _ _ _ _
          · have d4 : (m.opc == c.dpc) = false := by simpa using c5
            clear c1 c2 c3 c4 c5
            go_enter Try.func7, Try.ntmps7
            go_wp2_with fail
            go_ret
            exact fit_no _ _ _ _
  · have d1 : (m.cic != c.cic) = true := by simpa using c1
    clear c1
    go_enter Try.func7, Try.ntmps7
    go_wp2_with fail
    go_ret
    exact fit_no _ _ _ _

theorem Try.info9 : (Try.prog.info? 9).map (fun i => (i.zero, i.size, i.bytes)) = some (some (.string ByteArray.empty), 1, 16) := by kernel_rfl

/-! ### cloneStrings -/
theorem clone_step {w wr : World} {n k : Nat} {xs : List Value} {s : Nat → ByteArray} (hk : k < n) (hown : wr.ownsRow w.heap.size 9 1 (.slice (some ⟨w.heap.size, 0, none⟩) n n) n xs)
    (hx : ∀ j, j < k → xs[j]? = some (.string (s j))) (hb : Below w.heap.size w wr) :
    ∃ ys, (wr.setCell ⟨w.heap.size, k, none⟩ (.string (s k))).ownsRow w.heap.size 9 1 (.slice (some ⟨w.heap.size, 0, none⟩) n n) n ys ∧ (∀ j, j < k + 1 → ys[j]? = some (.string (s j))) ∧
      Below w.heap.size w (wr.setCell ⟨w.heap.size, k, none⟩ (.string (s k))) := by
  refine ⟨_, (hown.stored k (.string (s k))).1, ?_, hb.setCell (Nat.le_refl _) _⟩
  have hl := hown.1
  intro j hj
  rw [List.getElem?_set]
  by_cases e : k = j
  · subst e; rw [if_pos rfl, if_pos (by omega)]
  · rw [if_neg e]; exact hx j (by omega)

set_option maxHeartbeats 400000 in
theorem cloneStrings_some (x : Addr) (n cap : Nat) (s : Nat → ByteArray) (w : World) (hn : n ≤ 1048576) (hr : SRow w (some x) n s) :
    Calls Try.prog 8 #[.slice (some x) n cap] w fun r w' => r = .returned (.slice (some ⟨w.heap.size, 0, none⟩) n n) ∧ Strs w' w.heap.size 0 n s ∧ Below w.heap.size w w' := by
  have q24 := fun (w : World) (a : Option Addr) (n c : Nat) => Lib.run_eql_slice_nil (P := Try.prog) w 24 9 a n c 0 0 Try.underlying24
  obtain ⟨i0, hi, hz0, hz1, hz2⟩ := info_parts Try.info9
  go_enter Try.func8, Try.ntmps8
  go_wp2_with (at_make; refine wpList_make_full _ rfl _ _ 24 rfl w.heap.size 9 i0 (.string ByteArray.empty) 1 Try.underlying24 hi hz0 hz1 _ _ _ _ n rfl rfl rfl rfl ?b2 ?b3 (Nat.le_refl _) ?_)
  case b2 => rw [hz2]; omega
  case b3 => unfold maxLen; omega
  intro w0 hown0 hgrow0
  have hb0 : Below w.heap.size w w0 := (Below.refl _ _).grown hgrow0 (Nat.le_refl _) (fun k h => by cases h)
  go_wp2
  go_loopw [4] (fun t wr => ∃ (k : Nat) (xs : List Value), k ≤ n ∧ t = .int .i64 k ∧ wr.ownsRow w.heap.size 9 1 (.slice (some ⟨w.heap.size, 0, none⟩) n n) n xs ∧ (∀ j, j < k → xs[j]? = some (.string (s j))) ∧ Below w.heap.size w wr)
    (fun t _ => n - (intOf t).toNat)
  case atStart => exact ⟨0, _, Nat.zero_le _, rfl, hown0, fun j h => by omega, hb0⟩
  case round =>
    obtain ⟨k, xs, hk, rfl, hown, hx, hb⟩ := hrel
    by_cases hlt : k < n
    · rcases hr with h | ⟨b, off, e, ht⟩
      · omega
      cases e
      have hc : wr.cell? ⟨b, off + k, none⟩ = some (.string (s k)) := cell_later hb (ht k hlt)
      have hfz : wr.frozen? ⟨w.heap.size, k, none⟩ = false := hown.frozenAt k
      have hl := hown.1
      obtain ⟨v, hv⟩ : ∃ v, wr.cell? ⟨w.heap.size, k, none⟩ = some v := ⟨xs[k]'(by omega), by rw [hown.cellAt k (by omega)]; simp⟩
      obtain ⟨ys, R1, R2, R3⟩ := clone_step hlt hown hx hb
      clear hl
      go_wp2
      go_roundw
      case rel => exact ⟨k + 1, ys, by omega, by go_num, R1, R2, R3⟩
      case measure => simp [intOf]; omega
    · have hkn : k = n := by omega
      subst hkn
      go_wp2
      go_ret
      refine ⟨rfl, fun j hj => ?_, hb⟩
      rw [Nat.zero_add, hown.cellAt j (by omega)]
      exact hx j hj

theorem cloneStrings_nil (w : World) : Calls Try.prog 8 #[.slice none 0 0] w fun r w' => r = .returned (.slice none 0 0) ∧ w' = w := by
  have q24 := fun (w : World) (a : Option Addr) (n c : Nat) => Lib.run_eql_slice_nil (P := Try.prog) w 24 9 a n c 0 0 Try.underlying24
  go_enter Try.func8, Try.ntmps8
  go_wp2
  go_ret
  exact ⟨rfl, rfl⟩

theorem cloneStrings_row (ao : Option Addr) (n cap : Nat) (s : Nat → ByteArray) (w : World) (hn : n ≤ 1048576) (hno : ao = none → n = 0 ∧ cap = 0) (hr : SRow w ao n s) :
    Calls Try.prog 8 #[.slice ao n cap] w fun r w' => ∃ ao', r = .returned (.slice ao' n n) ∧ SRow w' ao' n s ∧ Below w.heap.size w w' := by
  cases ao with
  | none =>
    obtain ⟨rfl, rfl⟩ := hno rfl
    refine (cloneStrings_nil w).mono ?_
    rintro r w' ⟨rfl, rfl⟩
    exact ⟨none, rfl, .inl rfl, Below.refl _ _⟩
  | some x =>
    refine (cloneStrings_some x n cap s w hn hr).mono ?_
    rintro r w' ⟨rfl, ht', hb⟩
    exact ⟨_, rfl, .inr ⟨_, _, rfl, ht'⟩, hb⟩

/-- .. and where the copy lies. -/
theorem cloneStrings_new (ao : Option Addr) (n cap : Nat) (s : Nat → ByteArray) (w : World) (hn : n ≤ 1048576) (hno : ao = none → n = 0 ∧ cap = 0) (hr : SRow w ao n s) :
    Calls Try.prog 8 #[.slice ao n cap] w fun r w' => ∃ ao', r = .returned (.slice ao' n n) ∧ (n = 0 ∨ ∃ b, ao' = some ⟨b, 0, none⟩ ∧ w.heap.size ≤ b ∧ Strs w' b 0 n s) ∧ Below w.heap.size w w' := by
  cases ao with
  | none =>
    obtain ⟨rfl, rfl⟩ := hno rfl
    refine (cloneStrings_nil w).mono ?_
    rintro r w' ⟨rfl, rfl⟩
    exact ⟨none, rfl, .inl rfl, Below.refl _ _⟩
  | some x =>
    refine (cloneStrings_some x n cap s w hn hr).mono ?_
    rintro r w' ⟨rfl, ht', hb⟩
    exact ⟨_, rfl, .inr ⟨_, rfl, Nat.le_refl _, ht'⟩, hb⟩

end Go.Proofs.Qxb6603484a
