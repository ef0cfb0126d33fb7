/-
  THE WALKS of zzBytes_FnReleaseTellsTheEndsApart, relFits, onCircuit, cloneStrings.
-/
import Derived.Test.Qxb6603484aRecIs
namespace Go.Proofs.Qxb6603484a
open Go.RowKit
set_option linter.unusedVariables false

def Fit (p : Prop) (w : World) (r : Ending) (w' : World) : Prop := (r = .returned (.bool false) ∨ r = .returned (.bool true) ∧ p) ∧ Below w.heap.size w w'
theorem fit_no (p : Prop) (w : World) (a b : Obj) : Fit p w (.returned (.bool false)) ((w.alloc a).alloc b) := ⟨.inl rfl, below2 _ _ _⟩
theorem fit_yes {p : Prop} (w : World) (a b : Obj) (h : p) : Fit p w (.returned (.bool true)) ((w.alloc a).alloc b) := ⟨.inr ⟨rfl, h⟩, below2 _ _ _⟩

/-- The sizes that came in. -/
structure Sized (c : RecD) (m : MsgD) : Prop where
  n : c.ln ≤ maxLen
  a : c.calling.size ≤ maxLen
  b : c.called.size ≤ maxLen
  p : c.party.size ≤ maxLen
  l : m.link.size ≤ maxLen
  d : m.calling.size ≤ maxLen
  e : m.called.size ≤ maxLen

set_option maxRecDepth 100000 in
set_option maxHeartbeats 2000000 in
theorem relFits_any (c : RecD) (m : MsgD) (s : Nat → ByteArray) (w : World) (hz : Sized c m) (hl : SRow w c.la c.ln s) :
    Calls Try.prog 6 #[.agg c.cells, .agg m.cells] w (Fit (c.ln ≤ 65536) w) := by
  obtain ⟨h1, h2, h3, h4, h5, h6, h7⟩ := hz
  unfold maxLen at h1 h2 h3 h4 h5 h6 h7
  have f4 : c.cells[4]? = some (.string c.calling) := rfl
  have f5 : c.cells[5]? = some (.string c.called) := rfl
  have f8 : c.cells[8]? = some (.string c.party) := rfl
  have f13 : c.cells[13]? = some (.slice c.la c.ln c.lc) := rfl
  have g1 : m.cells[1]? = some (.string m.link) := rfl
  have g6 : m.cells[6]? = some (.string m.calling) := rfl
  have g7 : m.cells[7]? = some (.string m.called) := rfl
  obtain ⟨la, hla⟩ : ∃ la, c.la = la := ⟨_, rfl⟩
  obtain ⟨ln, hln⟩ : ∃ ln, c.ln = ln := ⟨_, rfl⟩
  rw [hla, hln] at f13 hl
  rw [hln] at h1 ⊢
  clear hla hln
  have hbel := below2 w (.cells c.cells 26) (.cells m.cells 28)
  go_enter Try.func6, Try.ntmps6
  go_wp2_with fail
  all_goals first
    | (go_ret; exact fit_no _ _ _ _)
    | (go_loop [5, 6] (fun t q => ∃ j k : Nat, j ≤ 8388608 ∧ k ≤ ln ∧ t = .int .i64 j ∧ q = .int .i64 k) (fun _ q => ln - (intOf q).toNat)
       case atStart => exact ⟨c.calling.size + c.called.size + c.party.size + m.link.size + m.calling.size + m.called.size + 16 * ln, 0, by omega, Nat.zero_le _, by go_num, rfl⟩
       case round =>
         obtain ⟨j, k, hj, hk, rfl, rfl⟩ := hrel
         by_cases hlt : k < ln
         · rcases hl with h | ⟨b, off, rfl, ht⟩
           · omega
           have hc := cell_later hbel (ht k hlt)
           go_wp2_with fail
           all_goals first
             | (go_ret; exact fit_no _ _ _ _)
             | (go_round
                case rel => exact ⟨j + (s k).size, k + 1, by omega, by omega, by go_num, by go_num⟩
                case measure => simp [intOf]; omega)
         · by_cases hfin : (j : Int) ≤ 1048576
           · have hd : decide ((j : Int) ≤ 1048576) = true := by simpa using hfin
             go_wp2_with fail
             go_ret
             exact fit_yes _ _ _ (by omega)
           · have hd : decide ((j : Int) ≤ 1048576) = false := by simpa using hfin
             go_wp2_with fail
             go_ret
             exact fit_no _ _ _ _)

set_option maxRecDepth 100000 in
set_option maxHeartbeats 2000000 in
theorem zzBytes5_any (c : RecD) (m : MsgD) (s : Nat → ByteArray) (w : World) (hz : Sized c m) (hl : SRow w c.la c.ln s) :
    Calls Try.prog 5 #[.agg c.cells, .agg m.cells] w (Fit True w) := by
  obtain ⟨h1, h2, h3, h4, h5, h6, h7⟩ := hz
  unfold maxLen at h1 h2 h3 h4 h5 h6 h7
  have f4 : c.cells[4]? = some (.string c.calling) := rfl
  have f5 : c.cells[5]? = some (.string c.called) := rfl
  have f8 : c.cells[8]? = some (.string c.party) := rfl
  have f13 : c.cells[13]? = some (.slice c.la c.ln c.lc) := rfl
  have g1 : m.cells[1]? = some (.string m.link) := rfl
  have g6 : m.cells[6]? = some (.string m.calling) := rfl
  have g7 : m.cells[7]? = some (.string m.called) := rfl
  obtain ⟨la, hla⟩ : ∃ la, c.la = la := ⟨_, rfl⟩
  obtain ⟨ln, hln⟩ : ∃ ln, c.ln = ln := ⟨_, rfl⟩
  rw [hla, hln] at f13 hl
  rw [hln] at h1
  clear hla hln
  have hbel := below2 w (.cells c.cells 26) (.cells m.cells 28)
  go_enter Try.func5, Try.ntmps5
  go_wp2_with fail
  all_goals first
    | (go_ret; exact fit_no _ _ _ _)
    | (go_loop [5, 6] (fun t q => ∃ j k : Nat, j ≤ 8388608 ∧ k ≤ ln ∧ t = .int .i64 j ∧ q = .int .i64 k) (fun _ q => ln - (intOf q).toNat)
       case atStart => exact ⟨c.calling.size + c.called.size + c.party.size + ln, 0, by omega, Nat.zero_le _, by go_num, rfl⟩
       case round =>
         obtain ⟨j, k, hj, hk, rfl, rfl⟩ := hrel
         by_cases hlt : k < ln
         · rcases hl with h | ⟨b, off, rfl, ht⟩
           · omega
           have hc := cell_later hbel (ht k hlt)
           go_wp2_with fail
           all_goals first
             | (go_ret; exact fit_no _ _ _ _)
             | (go_round
                case rel => exact ⟨j + (s k).size, k + 1, by omega, by omega, by go_num, by go_num⟩
                case measure => simp [intOf]; omega)
         · go_wp2_with fail
           all_goals first
             | (go_ret; exact fit_no _ _ _ _)
             | (go_ret; exact fit_yes _ _ _ trivial))

end Go.Proofs.Qxb6603484a
