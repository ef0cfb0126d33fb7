/-
  THE WALK of cloneWaiters.
-/
import Derived.Test.Qxb6603484aWs
namespace Go.Proofs.Qxb6603484a
open Go.RowKit
set_option linter.unusedVariables false

theorem Try.info69 : (Try.prog.info? 69).map (fun i => (i.zero, i.size, i.bytes)) = some (some (.agg #[.int .i64 0, .int .u16 0, .int .u32 0, .int .u32 0]), 4, 24) := by kernel_rfl

/-- The cells C hold the first k names. -/
def Ws (C : Array Value) (k : Nat) (f : Nat → WD) : Prop := ∀ j, j < k → C[j * 4]? = some (.int .i64 (f j).t) ∧ C[j * 4 + 1]? = some (.int .u16 (f j).cic) ∧ C[j * 4 + 2]? = some (.int .u32 (f j).lo) ∧ C[j * 4 + 3]? = some (.int .u32 (f j).hi)

theorem ws_step {C : Array Value} {n k : Nat} {f : Nat → WD} (hs : C.size = n * 4) (hk : k < n) (h : Ws C k f) :
    Ws ((((C.setIfInBounds (k * 4) (.int .i64 (f k).t)).setIfInBounds (k * 4 + 1) (.int .u16 (f k).cic)).setIfInBounds (k * 4 + 2) (.int .u32 (f k).lo)).setIfInBounds (k * 4 + 3) (.int .u32 (f k).hi)) (k + 1) f := by
  intro j hj
  by_cases e : j = k
  · subst e
    simp only [Array.getElem?_setIfInBounds, Array.size_setIfInBounds]
    refine ⟨?_, ?_, ?_, ?_⟩ <;> (repeat (first | rw [if_pos trivial] | rw [if_pos (by omega)] | rw [if_neg (by omega)]))
  · obtain ⟨h0, h1, h2, h3⟩ := h j (by omega)
    simp only [Array.getElem?_setIfInBounds, Array.size_setIfInBounds]
    refine ⟨?_, ?_, ?_, ?_⟩ <;> (repeat rw [if_neg (by omega)]) <;> assumption

set_option maxHeartbeats 1000000 in
theorem cloneW_some (x : Addr) (n cap : Nat) (f : Nat → WD) (w : World) (hn : n ≤ 32768) (hr : WRow w (some x) n f) :
    Calls Try.prog 18 #[.slice (some x) n cap] w fun r w' => r = .returned (.slice (some ⟨w.heap.size, 0, none⟩) n n) ∧ WAt w' w.heap.size 0 n f ∧ Below w.heap.size w w' := by
  have q47 := fun (w : World) (a : Option Addr) (n c : Nat) => Lib.run_eql_slice_nil (P := Try.prog) w 47 69 a n c 0 0 Try.underlying47
  obtain ⟨i0, hi, hz0, hz1, hz2⟩ := info_parts Try.info69
  go_enter Try.func18, Try.ntmps18
  go_wp2_with (at_make; refine wpList_make_full _ rfl _ _ 47 rfl w.heap.size 69 i0 _ 4 Try.underlying47 hi hz0 hz1 _ _ _ _ n rfl rfl rfl rfl ?b2 ?b3 (Nat.le_refl _) ?_)
  case b2 => rw [hz2]; omega
  case b3 => unfold maxLen; omega
  intro w0 hown0 hgrow0
  have hb0 : Below w.heap.size w w0 := (Below.refl _ _).grown hgrow0 (Nat.le_refl _) (fun k h => by cases h)
  obtain ⟨C0, hC0, hs0⟩ : ∃ C, Blk w0 w.heap.size C 69 ∧ C.size = n * 4 := by
    rcases hown0.2 with ⟨h, _⟩ | ⟨g, c, cur, h, _, hg, _, _, hcs, _⟩
    · cases h
    · cases h; exact ⟨cur, hg, hcs⟩
  go_wp2_with fail
  go_loopw [4] (fun t wr => ∃ (k : Nat) (C : Array Value), k ≤ n ∧ t = .int .i64 k ∧ Blk wr w.heap.size C 69 ∧ C.size = n * 4 ∧ Ws C k f ∧ Below w.heap.size w wr)
    (fun t _ => n - (intOf t).toNat)
  case atStart => exact ⟨0, C0, Nat.zero_le _, rfl, hC0, hs0, fun j h => by omega, hb0⟩
  case round =>
    obtain ⟨k, C, hk, rfl, hB, hs, hW, hb⟩ := hrel
    by_cases hlt : k < n
    · rcases hr with h | ⟨b, off, e, ht⟩
      · omega
      cases e
      obtain ⟨w0, w1, w2, w3⟩ := wAt_later hb ht k hlt
      have cB := hB.cell
      have fB := hB.frozen
      obtain ⟨v0, e0⟩ : ∃ v, C[k * 4]? = some v := ⟨_, Array.getElem?_eq_getElem (by omega)⟩
      obtain ⟨v1, e1⟩ : ∃ v, C[k * 4 + 1]? = some v := ⟨_, Array.getElem?_eq_getElem (by omega)⟩
      obtain ⟨v2, e2⟩ : ∃ v, C[k * 4 + 2]? = some v := ⟨_, Array.getElem?_eq_getElem (by omega)⟩
      obtain ⟨v3, e3⟩ : ∃ v, C[k * 4 + 3]? = some v := ⟨_, Array.getElem?_eq_getElem (by omega)⟩
      have R : Hid (_ ∧ _ ∧ _ ∧ _) := ⟨(((hB.setCell (k * 4) (.int .i64 (f k).t)).setCell (k * 4 + 1) (.int .u16 (f k).cic)).setCell (k * 4 + 2) (.int .u32 (f k).lo)).setCell (k * 4 + 3) (.int .u32 (f k).hi),
        (show Array.size ((((C.setIfInBounds (k * 4) (.int .i64 (f k).t)).setIfInBounds (k * 4 + 1) (.int .u16 (f k).cic)).setIfInBounds (k * 4 + 2) (.int .u32 (f k).lo)).setIfInBounds (k * 4 + 3) (.int .u32 (f k).hi)) = n * 4 by simpa using hs), ws_step hs hlt hW,
        (((hb.setCell (p := ⟨w.heap.size, k * 4, none⟩) (Nat.le_refl _) (.int .i64 (f k).t)).setCell (p := ⟨w.heap.size, k * 4 + 1, none⟩) (Nat.le_refl _) (.int .u16 (f k).cic)).setCell (p := ⟨w.heap.size, k * 4 + 2, none⟩) (Nat.le_refl _) (.int .u32 (f k).lo)).setCell (p := ⟨w.heap.size, k * 4 + 3, none⟩) (Nat.le_refl _) (.int .u32 (f k).hi)⟩
      clear hs hs0
      go_wp2_with fail
      go_roundw
      case rel => exact ⟨k + 1, _, by omega, by go_num, R.out⟩
      case measure => simp [intOf]; omega
    · have hkn : k = n := by omega
      subst hkn
      go_wp2_with fail
      go_ret
      refine ⟨rfl, fun j hj => ?_, hb⟩
      simp only [Nat.zero_add, hB.cell]
      exact hW j hj

theorem cloneW_nil (w : World) : Calls Try.prog 18 #[.slice none 0 0] w fun r w' => r = .returned (.slice none 0 0) ∧ w' = w := by
  have q47 := fun (w : World) (a : Option Addr) (n c : Nat) => Lib.run_eql_slice_nil (P := Try.prog) w 47 69 a n c 0 0 Try.underlying47
  go_enter Try.func18, Try.ntmps18
  go_wp2
  go_ret
  exact ⟨rfl, rfl⟩

/-- The copy: nil for nil, else in a block of its own. -/
theorem cloneW_any (p : Option Addr) (n cap : Nat) (f : Nat → WD) (w : World) (hn : n ≤ 32768) (hno : p = none → n = 0 ∧ cap = 0) (hr : WRow w p n f) :
    Calls Try.prog 18 #[.slice p n cap] w fun r w' => ∃ p', r = .returned (.slice p' n n) ∧ WRow w' p' n f ∧ (∀ x, p' = some x → x.block = w.heap.size) ∧ Below w.heap.size w w' := by
  cases p with
  | none =>
    obtain ⟨rfl, rfl⟩ := hno rfl
    refine (cloneW_nil w).mono ?_
    rintro r w' ⟨rfl, rfl⟩
    exact ⟨none, rfl, .inl rfl, fun x h => (by cases h), Below.refl _ _⟩
  | some x =>
    refine (cloneW_some x n cap f w hn hr).mono ?_
    rintro r w' ⟨rfl, ht', hb⟩
    exact ⟨_, rfl, .inr ⟨_, _, rfl, ht'⟩, fun x h => (by cases h; rfl), hb⟩

end Go.Proofs.Qxb6603484a
