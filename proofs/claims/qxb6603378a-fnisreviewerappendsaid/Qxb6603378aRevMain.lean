/-
  THE WALK of FnIsReviewerAppend.
-/
import Derived.Test.Qxb6603378aRev
import Derived.Outline
namespace Go.Proofs.Qxb6603378a.Rev
open Go.RowKit
set_option linter.unusedVariables false

def strs (s : Nat → ByteArray) (k : Nat) : List Value := (List.range k).map fun j => .string (s j)
theorem strs_succ (s : Nat → ByteArray) (k : Nat) : strs s (k + 1) = strs s k ++ [.string (s k)] := by simp [strs, List.range_succ]

def ext (s : Nat → ByteArray) (n : Nat) (x : ByteArray) (j : Nat) : ByteArray := if j < n then s j else x
theorem hasB_ext (s : Nat → ByteArray) (n : Nat) (x id : ByteArray) : hasB (ext s n x) id (n + 1) = (hasB s id n || sameB x id) := by
  show (hasB (ext s n x) id n || _) = _
  rw [hasB_congr (s' := s) (fun j hj => by simp [ext, hj])]
  simp [ext, sameB]
theorem strs_ext (s : Nat → ByteArray) (n : Nat) (x : ByteArray) : strs s n ++ [.string x] = strs (ext s n x) (n + 1) := by
  rw [strs_succ]
  congr 1
  · unfold strs
    refine List.map_congr_left fun j hj => ?_
    have := List.mem_range.mp hj
    simp [ext, this]
  · simp [ext]

/-- Two rows of the call's own, at G and H, each of k strings. -/
def Own2 (G H C : Nat) (w1 wr : World) (k m : Nat) (s t : Nat → ByteArray) : Prop :=
  wr.ownsRow G 9 1 (.slice (some ⟨G, 0, none⟩) k C) k (strs s k) ∧ wr.ownsRow G 9 1 (.slice (some ⟨H, 0, none⟩) m C) m (strs t m) ∧ Below G w1 wr ∧ G < H ∧ H < wr.heap.size

theorem own2_g {G H C k m : Nat} {w1 wr w2 : World} {s t s' : Nat → ByteArray} {o : Obj} {x : ByteArray} (h : Own2 G H C w1 wr k m s t) (hx : strs s k ++ [.string x] = strs s' (k + 1))
    (h1 : w2.ownsRow G 9 1 (.slice (some ⟨G, 0, none⟩) (k + 1) C) (k + 1) (strs s k ++ [.string x])) (hg : (wr.alloc o).grownBy w2 (some G)) : Own2 G H C w1 w2 (k + 1) m s' t := by
  obtain ⟨a, b, c, d, e⟩ := h
  have hz := hg.size
  simp at hz
  refine ⟨by rw [← hx]; exact h1, (b.alloc o).kept hg (.inr (by simp [Value.ownBlock]; omega)), (c.alloc (by omega) _).grown hg (by simp; omega) (fun k hk => by cases hk; exact Nat.le_refl _), d, by omega⟩

theorem own2_h {G H C k m : Nat} {w1 wr w2 : World} {s t t' : Nat → ByteArray} {o : Obj} {x : ByteArray} (h : Own2 G H C w1 wr k m s t) (hx : strs t m ++ [.string x] = strs t' (m + 1))
    (h1 : w2.ownsRow G 9 1 (.slice (some ⟨H, 0, none⟩) (m + 1) C) (m + 1) (strs t m ++ [.string x])) (hg : (wr.alloc o).grownBy w2 (some H)) : Own2 G H C w1 w2 k (m + 1) s t' := by
  obtain ⟨a, b, c, d, e⟩ := h
  have hz := hg.size
  simp at hz
  refine ⟨(a.alloc o).kept hg (.inr (by simp [Value.ownBlock]; omega)), by rw [← hx]; exact h1, (c.alloc (by omega) _).grown hg (by simp; omega) (fun k hk => by cases hk; omega), d, by omega⟩

theorem row_strs {wr : World} {B g k C : Nat} {s : Nat → ByteArray} (h : wr.ownsRow B 9 1 (.slice (some ⟨g, 0, none⟩) k C) k (strs s k)) : Strs wr g 0 k s := by
  intro i hi
  rw [Nat.zero_add, h.cellAt i (by omega)]
  simp [strs, hi]

set_option maxHeartbeats 2000000 in
theorem append_any (ao : Option Addr) (n cap : Nat) (nm id x : ByteArray) (s : Nat → ByteArray) (w : World) (hn : n ≤ maxLen) (h1 : nm.size ≤ maxLen) (h2 : id.size ≤ maxLen) (h3 : x.size ≤ maxLen)
    (hno : ao = none → n = 0 ∧ cap = 0) (hr : SRow w ao n s) :
    Calls Try.prog 4 #[.string nm, .slice ao n cap, .string id, .string x] w fun r w' => r = .returned (.bool true) ∧ Below w.heap.size w w' := by
  obtain ⟨i0, hi, hz0, hz1, hz2⟩ := info_parts Try.info9
  go_enter Try.func4, Try.ntmps4
  go_wp2_with fail
  refine (zzBytes15_any ao n cap nm id x s _ hn h1 h2 h3 hr).mono ?_
  rintro r w' ⟨hB | ⟨hB, _⟩, hw⟩
  · subst hB; subst hw
    go_wp2
    go_ret
    exact ⟨rfl, Below.refl _ _⟩
  subst hB; subst hw
  go_wp2_with fail
  refine (reviewersFit_any ao n cap nm id x s _ hn h1 h2 h3 hr).mono ?_
  rintro r w' ⟨hB | ⟨hB, hn2⟩, hw⟩
  · subst hB; subst hw
    go_wp2
    go_ret
    exact ⟨rfl, Below.refl _ _⟩
  subst hB; subst hw
  clear hn
  go_wp2_with fail
  refine (cloneStrings_row ao n cap s _ (by omega) hno hr).mono ?_
  rintro r w1 ⟨p, rfl, q, b1⟩
  clear hr hno
  go_wp2_with (first
    | (at_make; refine wpList_make_own _ rfl _ (.tmp 31) 22 rfl w1.heap.size 9 i0 (.string ByteArray.empty) 1 Try.underlying22 hi hz0 hz1 _ _ _ (n + 1) rfl rfl (by omega) (by rw [hz2]; omega) (by unfold maxLen; omega) (Nat.le_refl _) ?_; intro w2 hown2 hgrow2)
    | (at_make; refine wpList_make_own _ rfl _ (.tmp 35) 22 rfl w1.heap.size 9 i0 (.string ByteArray.empty) 1 Try.underlying22 hi hz0 hz1 _ _ _ (n + 1) rfl rfl (by omega) (by rw [hz2]; omega) (by unfold maxLen; omega) hgrow2.size ?_; intro w3 hown3 hgrow3))
  have hsz : w1.heap.size < w2.heap.size := (hown2.lt w1.heap.size rfl).2
  have hsz3 : w2.heap.size < w3.heap.size := (hown3.lt w2.heap.size rfl).2
  have O3 : Own2 w1.heap.size w2.heap.size (n + 1) w1 w3 0 0 s s := ⟨hown2.kept hgrow3 (.inr (by simp [Value.ownBlock])), hown3, ((Below.refl _ _).grown hgrow2 (Nat.le_refl _) (fun k h => by cases h)).grown hgrow3 hgrow2.size (fun k h => by cases h), hsz, hsz3⟩
  clear hown2 hgrow2 hown3 hgrow3 hsz hsz3
  obtain ⟨H, hH⟩ : ∃ H, H = w2.heap.size := ⟨_, rfl⟩
  rw [← hH] at O3 ⊢
  clear hH
  go_loopw [9, 10, 11] (fun a b t wr => ∃ k : Nat, k ≤ n ∧ t = .int .i64 k ∧ a = .slice (some ⟨w1.heap.size, 0, none⟩) k (n + 1) ∧ b = .slice (some ⟨H, 0, none⟩) k (n + 1) ∧ Own2 w1.heap.size H (n + 1) w1 wr k k s s) (fun _ _ t _ => n - (intOf t).toNat)
  case atStart => exact ⟨0, Nat.zero_le _, rfl, rfl, rfl, O3⟩
  case round =>
    clear O3
    obtain ⟨k, hk, rfl, rfl, rfl, O⟩ := hrel
    by_cases hlt : k < n
    · rcases q with h | ⟨b, off, rfl, ht⟩
      · omega
      have hc : wr.cell? ⟨b, off + k, none⟩ = some (.string (s k)) := cell_later O.2.2.1 (ht k hlt)
      go_wp2_with (first
        | (at_builtin; refine wpList_append_fits _ rfl (.tmp 43) (.tmp 48) 22 rfl w1.heap.size 9 i0 1 Try.underlying22 hi hz1 w1.heap.size (k) (n + 1) _ rfl (O.1.alloc _) ⟨wr.heap.size, 0, none⟩ 1 1 [_] rfl rfl (cell_one_new _ _ _) (by intro u hu; simp at hu; subst hu; rfl) (by omega) ?_; intro w5 hown5 hgrow5; have R1 := own2_g O (strs_succ s k).symm hown5 hgrow5; have hc5 : w5.cell? ⟨b, off + k, none⟩ = some (.string (s k)) := cell_later R1.2.2.1 (ht k hlt); clear hown5 hgrow5 O hc)
        | (at_builtin; refine wpList_append_fits _ rfl (.tmp 50) (.tmp 55) 22 rfl w1.heap.size 9 i0 1 Try.underlying22 hi hz1 H (k) (n + 1) _ rfl (R1.2.1.alloc _) ⟨w5.heap.size, 0, none⟩ 1 1 [_] rfl rfl (cell_one_new _ _ _) (by intro u hu; simp at hu; subst hu; rfl) (by omega) ?_; intro w6 hown6 hgrow6))
      have R2 := own2_h R1 (strs_succ s k).symm hown6 hgrow6
      clear hown6 hgrow6 R1 hc5
      go_roundw
      case rel => exact ⟨k + 1, by omega, by go_num, rfl, rfl, R2⟩
      case measure => simp [intOf]; omega
    · have hkn : k = n := by omega
      subst hkn
      go_wp2_with (first
        | (at_builtin; refine wpList_append_fits _ rfl (.tmp 57) (.tmp 59) 22 rfl w1.heap.size 9 i0 1 Try.underlying22 hi hz1 w1.heap.size (k) (k + 1) _ rfl (O.1.alloc _) ⟨wr.heap.size, 0, none⟩ 1 1 [_] rfl rfl (cell_one_new _ _ _) (by intro u hu; simp at hu; subst hu; rfl) (by omega) ?_; intro w5 hown5 hgrow5; have R1 := own2_g O (strs_ext s k x) hown5 hgrow5; clear hown5 hgrow5 O)
        | (at_builtin; refine wpList_append_fits _ rfl (.tmp 61) (.tmp 63) 22 rfl w1.heap.size 9 i0 1 Try.underlying22 hi hz1 H (k) (k + 1) _ rfl (R1.2.1.alloc _) ⟨w5.heap.size, 0, none⟩ 1 1 [_] rfl rfl (cell_one_new _ _ _) (by intro u hu; simp at hu; subst hu; rfl) (by omega) ?_; intro w6 hown6 hgrow6))
      have R2 := own2_h R1 (strs_ext s k id) hown6 hgrow6
      clear hown6 hgrow6 R1
      obtain ⟨o1, o2, hb6, hGH, hHs⟩ := R2
      have hsz6 : w1.heap.size ≤ w6.heap.size := by omega
      have hfin : Below w'.heap.size w' w6 := b1.trans (hb6.mono b1.size)
      have hsz7 : w'.heap.size ≤ w6.heap.size := hfin.size
      have e1 := hasB_ext s k x id
      have e2 : hasB (ext s k id) id (k + 1) = true := by rw [hasB_ext]; simp [sameB]
      rcases Bool.eq_false_or_eq_true (hasB s id k) with hbf | hbf <;> rcases Bool.eq_false_or_eq_true (sameB x id) with hsm | hsm <;> rw [hbf, hsm] at e1
      all_goals
        refine (isReviewer_any w6.heap.size k k p id s _ (by omega) (q.later (hb6.alloc hsz6 _)) (by simp)).mono ?_
        rintro r w' ⟨rfl, rfl⟩
        go_wp2_with fail
        refine (isReviewer_any _ (k + 1) (k + 1) (some ⟨w1.heap.size, 0, none⟩) id (ext s k x) _ (by omega) (.inr ⟨_, _, rfl, row_strs ((o1.alloc _).alloc _)⟩) (by simp)).mono ?_
        rintro r w' ⟨rfl, rfl⟩
        go_wp2_with fail
        refine (isReviewer_any _ (k + 1) (k + 1) (some ⟨H, 0, none⟩) id (ext s k id) _ (by omega) (.inr ⟨_, _, rfl, row_strs (((o2.alloc _).alloc _).alloc _)⟩) (by rw [World.cell?_alloc_at _ _ _ _ (by simp)]; rfl)).mono ?_
        rintro r w' ⟨rfl, rfl⟩
        go_wp2_with (go_at_call 16; refine (sameText_any x id _ h3 h2).mono ?_; rintro r w' ⟨rfl, m, rfl⟩)
        go_ret
        exact ⟨rfl, by first | exact ((hfin.alloc hsz7 _).alloc (by simp; omega) _).alloc (by simp; omega) _ | exact below_drewN (((hfin.alloc hsz7 _).alloc (by simp; omega) _).alloc (by simp; omega) _) _⟩

end Go.Proofs.Qxb6603378a.Rev
