/-
  THE LIST OF NAMES that is handed in: the walks of firstLive, waitersReachable, cloneWaiters, zzBytes.
-/
import Derived.Test.Qxb6603484aPush
namespace Go.Proofs.Qxb6603484a
open Go.RowKit
set_option linter.unusedVariables false

/-- n names lie at b from off on. -/
def WAt (w : World) (b off n : Nat) (f : Nat → WD) : Prop := ∀ j, j < n → w.cell? ⟨b, off + j * 4, none⟩ = some (.int .i64 (f j).t) ∧ w.cell? ⟨b, off + j * 4 + 1, none⟩ = some (.int .u16 (f j).cic) ∧
  w.cell? ⟨b, off + j * 4 + 2, none⟩ = some (.int .u32 (f j).lo) ∧ w.cell? ⟨b, off + j * 4 + 3, none⟩ = some (.int .u32 (f j).hi)
def WRow (w : World) (p : Option Addr) (n : Nat) (f : Nat → WD) : Prop := n = 0 ∨ ∃ b off, p = some ⟨b, off, none⟩ ∧ WAt w b off n f
/-- The times lie in the range of int64. -/
def Tms (n : Nat) (f : Nat → WD) : Prop := ∀ j, j < n → -9223372036854775808 ≤ (f j).t ∧ (f j).t ≤ 9223372036854775807
/-- The first name from k on that is not too old. -/
def fl (l : Int) (f : Nat → WD) (n k : Nat) : Nat := if k < n then (if older l (f k).t = true then fl l f n (k + 1) else k) else k
termination_by n - k

theorem fl_stop {l : Int} {f : Nat → WD} {n k : Nat} (h : ¬ k < n) : fl l f n k = k := by rw [fl, if_neg h]
theorem fl_live {l : Int} {f : Nat → WD} {n k : Nat} (h : k < n) (ho : older l (f k).t = false) : fl l f n k = k := by rw [fl, if_pos h, if_neg (by simp [ho])]
theorem fl_step {l : Int} {f : Nat → WD} {n k : Nat} (h : k < n) (ho : older l (f k).t = true) : fl l f n k = fl l f n (k + 1) := by rw [fl, if_pos h, if_pos ho]

set_option maxHeartbeats 400000 in
theorem firstLive_any (l : Int) (p : Option Addr) (n cap k : Nat) (f : Nat → WD) (w : World) (h1 : -9223372036854775808 ≤ l) (h2 : l ≤ 9223372036854775807) (hr : WRow w p n f) (ht : Tms n f) (hk : k ≤ n) (hn : n ≤ 1048576) :
    Calls Try.prog 21 #[.int .i64 l, .slice p n cap, .int .i64 k] w fun r w' => r = .returned (.int .i64 (fl l f n k)) ∧ w' = w := by
  go_enter Try.func21, Try.ntmps21
  go_wp2_with fail
  go_loopw [7] (fun t wr => ∃ k' : Nat, k' ≤ n ∧ t = .int .i64 k' ∧ fl l f n k' = fl l f n k ∧ wr = w) (fun t _ => n - (intOf t).toNat)
  case atStart => exact ⟨k, hk, rfl, rfl, rfl⟩
  case round =>
    obtain ⟨k', hk', rfl, he, rfl⟩ := hrel
    have HE : Hid (fl l f n k' = fl l f n k) := he
    clear he
    by_cases hlt : k' < n
    · rcases hr with h | ⟨b, off, e, hw⟩
      · omega
      cases e
      obtain ⟨w0, _⟩ := hw k' hlt
      obtain ⟨t1, t2⟩ := ht k' hlt
      by_cases ho : older l (f k').t = true
      · go_wp2_with (go_at_call 33; refine (older_any l (f k').t _ h1 h2 t1 t2).mono ?_; rintro r w1 ⟨rfl, rfl⟩)
        go_roundw
        case rel => exact ⟨k' + 1, by omega, by go_num, (fl_step hlt ho).symm.trans HE.out, trivial⟩
        case measure => simp [intOf]; omega
      · have ho' : older l (f k').t = false := by simpa using ho
        clear ho
        go_wp2_with (go_at_call 33; refine (older_any l (f k').t _ h1 h2 t1 t2).mono ?_; rintro r w1 ⟨rfl, rfl⟩)
        go_ret
        rw [← HE.out, fl_live hlt ho']
        exact ⟨rfl, rfl⟩
    · have hkn : k' = n := by omega
      subst hkn
      go_wp2_with fail
      go_ret
      rw [← HE.out, fl_stop (by omega)]
      exact ⟨rfl, rfl⟩

theorem zzBytesE_any (a1 a2 a4 : Int) (p : Option Addr) (n cap : Nat) (w : World) (hn : n ≤ 9223372036854775807) :
    Calls Try.prog 16 #[.int .i64 a1, .int .i64 a2, .slice p n cap, .int .i64 a4] w fun r w' => r = .returned (.bool (decide (n ≤ 1048576))) ∧ w' = w := by
  by_cases h : n ≤ 1048576
  · have e : decide (n ≤ 1048576) = true := by simpa using h
    rw [e]
    clear e
    go_enter Try.func16, Try.ntmps16
    go_wp2
    go_ret
    exact ⟨rfl, rfl⟩
  · have e : decide (n ≤ 1048576) = false := by simpa using h
    rw [e]
    clear e
    go_enter Try.func16, Try.ntmps16
    go_wp2
    go_ret
    exact ⟨rfl, rfl⟩

theorem cellL {w w1 : World} {a : Addr} {v : Value} (hb : Below w.heap.size w w1) (h : w.cell? a = some v) : w1.cell? a = some v := (hb.cell (World.block_lt_of_cell? w a h)).trans h
theorem below_drewN' {N : Nat} {a w : World} (h : Below N a w) (n : Nat) : Below N a (w.drewN n) := ⟨h.os, h.tape, h.output, h.size, h.block⟩
theorem wAt_later {w w1 : World} {b off n : Nat} {f : Nat → WD} (hb : Below w.heap.size w w1) (h : WAt w b off n f) : WAt w1 b off n f := fun j hj => by
  obtain ⟨h0, h1, h2, h3⟩ := h j hj
  exact ⟨cellL hb h0, cellL hb h1, cellL hb h2, cellL hb h3⟩
theorem wRow_later {w w1 : World} {p : Option Addr} {n : Nat} {f : Nat → WD} (hb : Below w.heap.size w w1) (h : WRow w p n f) : WRow w1 p n f := h.imp id fun ⟨b, off, e, h⟩ => ⟨b, off, e, wAt_later hb h⟩

/-- What a 'true' of waitersReachable tells (as much as is wanted). -/
def Reach (wa : Int) (n : Nat) (w : World) (r : Ending) (w' : World) : Prop := (∃ c : Bool, r = .returned (.bool c) ∧ (c = true → 0 ≤ wa ∧ wa ≤ n)) ∧ Below w.heap.size w w'
theorem reach_no (wa : Int) (n : Nat) (w w' : World) (hb : Below w.heap.size w w') : Reach wa n w (.returned (.bool false)) w' := ⟨⟨false, rfl, fun h => by cases h⟩, hb⟩
theorem reach_yes (wa : Int) (n : Nat) (w w' : World) (h : 0 ≤ wa ∧ wa ≤ n) (hb : Below w.heap.size w w') : Reach wa n w (.returned (.bool true)) w' := ⟨⟨true, rfl, fun _ => h⟩, hb⟩

set_option maxHeartbeats 1000000 in
theorem reachable_any (l wa : Int) (p : Option Addr) (n cap : Nat) (f : Nat → WD) (w : World) (hr : WRow w p n f) (hn : n ≤ 32768) :
    Calls Try.prog 17 #[.int .i64 l, .slice p n cap, .int .i64 wa] w (Reach wa n w) := by
  by_cases a1 : wa < 0
  · go_enter Try.func17, Try.ntmps17
    go_wp2
    go_ret
    exact reach_no _ _ _ _ (Below.refl _ _)
  by_cases a2 : ¬ wa ≤ n
  · go_enter Try.func17, Try.ntmps17
    go_wp2
    go_ret
    exact reach_no _ _ _ _ (Below.refl _ _)
  have R : Hid (0 ≤ wa ∧ wa ≤ n) := ⟨by omega, by omega⟩
  by_cases a3 : wa = 0
  · subst a3
    go_enter Try.func17, Try.ntmps17
    go_wp2
    go_loopw [8] (fun t wr => ∃ k : Nat, k ≤ n ∧ t = .int .i64 k ∧ Below w.heap.size w wr) (fun t _ => n - (intOf t).toNat)
    case atStart => exact ⟨0, Nat.zero_le _, rfl, Below.refl _ _⟩
    case round =>
      obtain ⟨k, hk, rfl, hb⟩ := hrel
      by_cases hlt : k < n
      · rcases hr with h | ⟨b, off, e, hw⟩
        · omega
        cases e
        obtain ⟨w0, w1, w2, w3⟩ := wAt_later hb hw k hlt
        by_cases d1 : l < (f k).t
        · have e1 : decide (l < (f k).t) = true := by simpa using d1
          clear d1
          go_wp2_with fail
          go_quiet (fail)
          go_wp2_with fail
          go_ret
          exact reach_no _ _ _ _ (below_drewN' hb nq)
        · have e1 : decide (l < (f k).t) = false := by simpa using d1
          by_cases d2 : (f k).hi < (f k).lo
          · have e2 : decide ((f k).hi < (f k).lo) = true := by simpa using d2
            clear d1 d2
            go_wp2_with fail
            go_quiet (fail)
            go_wp2_with fail
            go_ret
            exact reach_no _ _ _ _ (below_drewN' hb nq)
          · have e2 : decide ((f k).hi < (f k).lo) = false := by simpa using d2
            clear d1 d2
            go_wp2_with fail
            go_quiet (fail)
            go_wp2_with fail
            go_roundw
            case rel => exact ⟨k + 1, by omega, by first | rfl | (simp; done) | go_num, below_drewN' hb nq⟩
            case measure => simp [intOf]; omega
      · have hkn : k = n := by omega
        subst hkn
        go_wp2_with fail
        go_ret
        exact reach_yes _ _ _ _ R.out hb
  by_cases a4 : 2 * wa < n
  · have b1 : (wa != 0) = true := by simp; omega
    have b2 : IntKind.i64.wrap (2 * wa) = 2 * wa := by rw [IntKind.wrap_i64]; omega
    go_enter Try.func17, Try.ntmps17
    go_wp2
    go_loopw [8] (fun t wr => ∃ k : Nat, k ≤ n ∧ t = .int .i64 k ∧ Below w.heap.size w wr) (fun t _ => n - (intOf t).toNat)
    case atStart => exact ⟨0, Nat.zero_le _, rfl, Below.refl _ _⟩
    case round =>
      obtain ⟨k, hk, rfl, hb⟩ := hrel
      by_cases hlt : k < n
      · rcases hr with h | ⟨b, off, e, hw⟩
        · omega
        cases e
        obtain ⟨w0, w1, w2, w3⟩ := wAt_later hb hw k hlt
        by_cases d1 : l < (f k).t
        · have e1 : decide (l < (f k).t) = true := by simpa using d1
          clear d1
          go_wp2_with fail
          go_quiet (fail)
          go_wp2_with fail
          go_ret
          exact reach_no _ _ _ _ (below_drewN' hb nq)
        · have e1 : decide (l < (f k).t) = false := by simpa using d1
          by_cases d2 : (f k).hi < (f k).lo
          · have e2 : decide ((f k).hi < (f k).lo) = true := by simpa using d2
            clear d1 d2
            go_wp2_with fail
            go_quiet (fail)
            go_wp2_with fail
            go_ret
            exact reach_no _ _ _ _ (below_drewN' hb nq)
          · have e2 : decide ((f k).hi < (f k).lo) = false := by simpa using d2
            clear d1 d2
            go_wp2_with fail
            go_quiet (fail)
            go_wp2_with fail
            go_roundw
            case rel => exact ⟨k + 1, by omega, by first | rfl | (simp; done) | go_num, below_drewN' hb nq⟩
            case measure => simp [intOf]; omega
      · have hkn : k = n := by omega
        subst hkn
        go_wp2_with fail
        go_ret
        exact reach_yes _ _ _ _ R.out hb
  · have b1 : (wa != 0) = true := by simp; omega
    have b2 : IntKind.i64.wrap (2 * wa) = 2 * wa := by rw [IntKind.wrap_i64]; omega
    go_enter Try.func17, Try.ntmps17
    go_wp2
    go_ret
    exact reach_no _ _ _ _ (Below.refl _ _)

end Go.Proofs.Qxb6603484a
