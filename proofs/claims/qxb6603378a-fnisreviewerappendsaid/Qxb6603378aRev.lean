/-
  THE WALKS of FnIsReviewerAppend's callees.
-/
import Derived.Test.Qxb6603378aProg
import Derived.WalkKit
import Derived.WalkSpells
import Derived.WalkLawsBesides
import Derived.Deep.QuietTactic
import Derived.BigQuiet
namespace Go.Proofs.Qxb6603378a.Rev
open Go.RowKit
set_option linter.unusedVariables false

/-- n strings lie in block b from offset off on. -/
def Strs (w : World) (b off n : Nat) (s : Nat → ByteArray) : Prop := ∀ i, i < n → w.cell? ⟨b, off + i, none⟩ = some (.string (s i))
/-- WHAT A SLICE OF STRINGS IS TO A READER: it is empty, or its n strings lie in a block, as s says. -/
def SRow (w : World) (ao : Option Addr) (n : Nat) (s : Nat → ByteArray) : Prop := n = 0 ∨ ∃ b off, ao = some ⟨b, off, none⟩ ∧ Strs w b off n s

theorem Strs.later {w wx : World} {b off n : Nat} {s : Nat → ByteArray} (h : Strs w b off n s) (hb : Below w.heap.size w wx) : Strs wx b off n s := fun i hi => cell_later hb (h i hi)
theorem SRow.later {w wx : World} {ao : Option Addr} {n : Nat} {s : Nat → ByteArray} (h : SRow w ao n s) (hb : Below w.heap.size w wx) : SRow wx ao n s := by
  rcases h with h | ⟨b, off, e, h⟩
  · exact .inl h
  · exact .inr ⟨b, off, e, h.later hb⟩

/-- Is id among the first k strings? -/
def hasB (s : Nat → ByteArray) (id : ByteArray) : Nat → Bool
  | 0 => false
  | k + 1 => hasB s id k || ((s k).toList == id.toList)

theorem hasB_hit {s : Nat → ByteArray} {id : ByteArray} {n k : Nat} (hk : k < n) (h : ((s k).toList == id.toList) = true) : hasB s id n = true := by
  induction n with
  | zero => omega
  | succ n ih =>
    unfold hasB
    by_cases e : k = n
    · subst e; rw [h]; simp
    · rw [ih (by omega)]; simp

theorem hasB_congr {s s' : Nat → ByteArray} {id : ByteArray} : ∀ {n : Nat}, (∀ j, j < n → s j = s' j) → hasB s id n = hasB s' id n
  | 0, _ => rfl
  | n + 1, h => by unfold hasB; rw [hasB_congr (fun j hj => h j (by omega)), h n (by omega)]

theorem ret_bool {a b : Bool} (h : a = b) : Ending.returned (.bool a) = .returned (.bool b) := by rw [h]

set_option maxHeartbeats 400000 in
theorem isReviewer_any (B n cap : Nat) (ao : Option Addr) (id : ByteArray) (s : Nat → ByteArray) (w : World) (hn : n ≤ 1048576) (hr : SRow w ao n s)
    (hB1 : w.cell? ⟨B, 1, none⟩ = some (.slice ao n cap)) :
    Calls Try.prog 14 #[.pointer (some ⟨B, 0, none⟩), .string id] w fun r w' => r = .returned (.bool (hasB s id n)) ∧ w' = w := by
  go_enter Try.func14, Try.ntmps14
  go_wp2
  go_loop [12] (fun t => ∃ k : Nat, k ≤ n ∧ t = .int .i64 k ∧ Hid (hasB s id k = false)) (fun t => n - (intOf t).toNat)
  case atStart => exact ⟨0, Nat.zero_le _, rfl, rfl⟩
  case round =>
    obtain ⟨k, hk, rfl, hno⟩ := hrel
    by_cases hlt : k < n
    · rcases hr with h | ⟨b, off, rfl, ht⟩
      · omega
      have hc := ht k hlt
      by_cases c : ((s k).toList == id.toList) = true
      · have hh : Hid (hasB s id n = true) := hasB_hit hlt c
        go_wp2
        go_ret
        exact ⟨ret_bool hh.out.symm, rfl⟩
      · have c' : ((s k).toList == id.toList) = false := by simpa using c
        have hh : Hid (hasB s id (k + 1) = false) := by show _ = _; unfold hasB; rw [hno.out, c']; rfl
        clear c
        go_wp2
        go_round
        case rel => exact ⟨k + 1, by omega, by go_num, hh⟩
        case measure => simp [intOf]; omega
    · have e : k = n := by omega
      subst e
      go_wp2
      go_ret
      exact ⟨ret_bool hno.out.symm, rfl⟩

/-! ### sameText -/
theorem getByte (a : ByteArray) (k : Nat) (h : k < a.size) : a.data.toList[k]? = some a[k] := by
  rw [Array.getElem?_toList, Array.getElem?_eq_getElem h]; rfl

theorem same_of {a b : ByteArray} (hz : a.size = b.size) (h : ∀ k (h1 : k < a.size) (h2 : k < b.size), a[k] = b[k]) : (a.toList == b.toList) = true := by
  rw [ByteArray.toList_eq, ByteArray.toList_eq]
  have : a.data.toList = b.data.toList := by
    refine List.ext_getElem? fun k => ?_
    by_cases hk : k < a.size
    · rw [getByte a k hk, getByte b k (by omega), h k hk (by omega)]
    · rw [List.getElem?_eq_none, List.getElem?_eq_none]
      · simp only [Array.length_toList]; show b.size ≤ k; omega
      · simp only [Array.length_toList]; show a.size ≤ k; omega
  simp [this]

theorem differ_of {a b : ByteArray} {k : Nat} (h1 : k < a.size) (h2 : k < b.size) (h : a[k] ≠ b[k]) : (a.toList == b.toList) = false := by
  rw [ByteArray.toList_eq, ByteArray.toList_eq]
  rw [beq_eq_false_iff_ne]
  intro e
  have e1 := getByte a k h1
  rw [e, getByte b k h2] at e1
  exact h (Option.some.inj e1).symm

theorem differ_size {a b : ByteArray} (h : a.size ≠ b.size) : (a.toList == b.toList) = false := by
  rw [ByteArray.toList_eq, ByteArray.toList_eq]
  rw [beq_eq_false_iff_ne]
  intro e
  have := congrArg List.length e
  simp only [Array.length_toList] at this
  exact h this

def sameB (a b : ByteArray) : Bool := a.toList == b.toList

set_option maxHeartbeats 400000 in
theorem sameText_any (a b : ByteArray) (w : World) (ha : a.size ≤ maxLen) (hb : b.size ≤ maxLen) :
    Calls Try.prog 16 #[.string a, .string b] w fun r w' => r = .returned (.bool (sameB a b)) ∧ ∃ m, w' = w.drewN m := by
  unfold maxLen at ha hb
  by_cases hz : a.size = b.size
  · have HZ : Hid (a.size = b.size) := hz
    have hz1 : ((a.size : Int) != (b.size : Int)) = false := by simp; omega
    have h1 : a.size ≤ b.size := by omega
    clear hz
    go_enter Try.func16, Try.ntmps16
    go_wp2
    go_loopw [5] (fun t wr => ∃ k m : Nat, k ≤ a.size ∧ t = .int .i64 k ∧ wr = w.drewN m ∧ Hid (∀ j (h1 : j < a.size) (h2 : j < b.size), j < k → a[j] = b[j])) (fun t _ => a.size - (intOf t).toNat)
    case atStart => exact ⟨0, 0, Nat.zero_le _, rfl, rfl, fun j _ _ h => by omega⟩
    case round =>
      obtain ⟨k, m, hk, rfl, rfl, hsame⟩ := hrel
      by_cases hlt : k < a.size
      · have hlt2 : k < b.size := by omega
        by_cases c : a[k] = b[k]
        · have c' : ((a[k].toNat : Int) != (b[k].toNat : Int)) = false := by rw [c]; simp
          have hh : Hid (∀ j (h1 : j < a.size) (h2 : j < b.size), j < k + 1 → a[j] = b[j]) := fun j p q r => by
            by_cases e : j = k
            · subst e; exact c
            · exact hsame.out j p q (by omega)
          clear c hsame
          go_wp2
          go_quiet (fail)
          go_wp2
          go_roundw
          case rel => exact ⟨k + 1, _, by omega, by go_num, rfl, hh⟩
          case measure => simp [intOf]; omega
        · have c' : ((a[k].toNat : Int) != (b[k].toNat : Int)) = true := by
            simp only [bne_iff_ne, ne_eq]
            intro e
            exact c (UInt8.toNat_inj.mp (by omega))
          have hd : Hid (sameB a b = false) := differ_of hlt hlt2 c
          clear c hsame
          go_wp2
          go_quiet (fail)
          go_wp2
          go_ret
          exact ⟨ret_bool hd.out.symm, m + nq, by simp⟩
      · have hd : Hid (sameB a b = true) := same_of HZ.out fun j p q => hsame.out j p q (by omega)
        go_wp2
        go_ret
        exact ⟨ret_bool hd.out.symm, _, rfl⟩
  · have hz1 : ((a.size : Int) != (b.size : Int)) = true := by simp only [bne_iff_ne, ne_eq]; omega
    have hd : Hid (sameB a b = false) := differ_size hz
    clear hz
    go_enter Try.func16, Try.ntmps16
    go_wp2
    go_ret
    exact ⟨ret_bool hd.out.symm, 0, rfl⟩

theorem Try.info9 : (Try.prog.info? 9).map (fun i => (i.zero, i.size, i.bytes)) = some (some (.string ByteArray.empty), 1, 16) := by kernel_rfl

/-! ### cloneStrings -/
theorem clone_step {w wr : World} {n k : Nat} {xs : List Value} {s : Nat → ByteArray} (hk : k < n) (hown : wr.ownsRow w.heap.size 9 1 (.slice (some ⟨w.heap.size, 0, none⟩) n n) n xs)
    (hx : ∀ j, j < k → xs[j]? = some (.string (s j))) (hb : Below w.heap.size w wr) :
    ∃ ys, (wr.setCell ⟨w.heap.size, k, none⟩ (.string (s k))).ownsRow w.heap.size 9 1 (.slice (some ⟨w.heap.size, 0, none⟩) n n) n ys ∧ (∀ j, j < k + 1 → ys[j]? = some (.string (s j))) ∧
      Below w.heap.size w (wr.setCell ⟨w.heap.size, k, none⟩ (.string (s k))) := by
  refine ⟨_, (hown.stored k (.string (s k))).1, ?_, hb.setCell (Nat.le_refl _) _⟩
  have hl := hown.1
  intro j hj
  rw [List.getElem?_set]
  by_cases e : k = j
  · subst e; rw [if_pos rfl, if_pos (by omega)]
  · rw [if_neg e]; exact hx j (by omega)

set_option maxHeartbeats 400000 in
theorem cloneStrings_some (x : Addr) (n cap : Nat) (s : Nat → ByteArray) (w : World) (hn : n ≤ 1048576) (hr : SRow w (some x) n s) :
    Calls Try.prog 13 #[.slice (some x) n cap] w fun r w' => r = .returned (.slice (some ⟨w.heap.size, 0, none⟩) n n) ∧ Strs w' w.heap.size 0 n s ∧ Below w.heap.size w w' := by
  have q22 := fun (w : World) (a : Option Addr) (n c : Nat) => Lib.run_eql_slice_nil (P := Try.prog) w 22 9 a n c 0 0 Try.underlying22
  obtain ⟨i0, hi, hz0, hz1, hz2⟩ := info_parts Try.info9
  go_enter Try.func13, Try.ntmps13
  go_wp2_with (at_make; refine wpList_make_full _ rfl _ _ 22 rfl w.heap.size 9 i0 (.string ByteArray.empty) 1 Try.underlying22 hi hz0 hz1 _ _ _ _ n rfl rfl rfl rfl ?b2 ?b3 (Nat.le_refl _) ?_)
  case b2 => rw [hz2]; omega
  case b3 => unfold maxLen; omega
  intro w0 hown0 hgrow0
  have hb0 : Below w.heap.size w w0 := (Below.refl _ _).grown hgrow0 (Nat.le_refl _) (fun k h => by cases h)
  go_wp2
  go_loopw [4] (fun t wr => ∃ (k : Nat) (xs : List Value), k ≤ n ∧ t = .int .i64 k ∧ wr.ownsRow w.heap.size 9 1 (.slice (some ⟨w.heap.size, 0, none⟩) n n) n xs ∧ (∀ j, j < k → xs[j]? = some (.string (s j))) ∧ Below w.heap.size w wr)
    (fun t _ => n - (intOf t).toNat)
  case atStart => exact ⟨0, _, Nat.zero_le _, rfl, hown0, fun j h => by omega, hb0⟩
  case round =>
    obtain ⟨k, xs, hk, rfl, hown, hx, hb⟩ := hrel
    by_cases hlt : k < n
    · rcases hr with h | ⟨b, off, e, ht⟩
      · omega
      cases e
      have hc : wr.cell? ⟨b, off + k, none⟩ = some (.string (s k)) := cell_later hb (ht k hlt)
      have hfz : wr.frozen? ⟨w.heap.size, k, none⟩ = false := hown.frozenAt k
      have hl := hown.1
      obtain ⟨v, hv⟩ : ∃ v, wr.cell? ⟨w.heap.size, k, none⟩ = some v := ⟨xs[k]'(by omega), by rw [hown.cellAt k (by omega)]; simp⟩
      obtain ⟨ys, R1, R2, R3⟩ := clone_step hlt hown hx hb
      clear hl
      go_wp2
      go_roundw
      case rel => exact ⟨k + 1, ys, by omega, by go_num, R1, R2, R3⟩
      case measure => simp [intOf]; omega
    · have hkn : k = n := by omega
      subst hkn
      go_wp2
      go_ret
      refine ⟨rfl, fun j hj => ?_, hb⟩
      rw [Nat.zero_add, hown.cellAt j (by omega)]
      exact hx j hj

theorem cloneStrings_nil (w : World) : Calls Try.prog 13 #[.slice none 0 0] w fun r w' => r = .returned (.slice none 0 0) ∧ w' = w := by
  have q22 := fun (w : World) (a : Option Addr) (n c : Nat) => Lib.run_eql_slice_nil (P := Try.prog) w 22 9 a n c 0 0 Try.underlying22
  go_enter Try.func13, Try.ntmps13
  go_wp2
  go_ret
  exact ⟨rfl, rfl⟩

theorem cloneStrings_row (ao : Option Addr) (n cap : Nat) (s : Nat → ByteArray) (w : World) (hn : n ≤ 1048576) (hno : ao = none → n = 0 ∧ cap = 0) (hr : SRow w ao n s) :
    Calls Try.prog 13 #[.slice ao n cap] w fun r w' => ∃ ao', r = .returned (.slice ao' n n) ∧ SRow w' ao' n s ∧ Below w.heap.size w w' := by
  cases ao with
  | none =>
    obtain ⟨rfl, rfl⟩ := hno rfl
    refine (cloneStrings_nil w).mono ?_
    rintro r w' ⟨rfl, rfl⟩
    exact ⟨none, rfl, .inl rfl, Below.refl _ _⟩
  | some x =>
    refine (cloneStrings_some x n cap s w hn hr).mono ?_
    rintro r w' ⟨rfl, ht', hb⟩
    exact ⟨_, rfl, .inr ⟨_, _, rfl, ht'⟩, hb⟩

/-! ### the two bounds -/
def Fit (p : Prop) (w : World) (r : Ending) (w' : World) : Prop := (r = .returned (.bool false) ∨ r = .returned (.bool true) ∧ p) ∧ w' = w
theorem fit_no (p : Prop) (w : World) : Fit p w (.returned (.bool false)) w := ⟨.inl rfl, rfl⟩
theorem fit_yes {p : Prop} (w : World) (h : p) : Fit p w (.returned (.bool true)) w := ⟨.inr ⟨rfl, h⟩, rfl⟩

set_option maxHeartbeats 1000000 in
theorem reviewersFit_any (ao : Option Addr) (n cap : Nat) (nm id x : ByteArray) (s : Nat → ByteArray) (w : World) (hn : n ≤ maxLen) (h1 : nm.size ≤ maxLen) (h2 : id.size ≤ maxLen) (h3 : x.size ≤ maxLen) (hr : SRow w ao n s) :
    Calls Try.prog 12 #[.string nm, .slice ao n cap, .string id, .string x] w (Fit (n ≤ 65536) w) := by
  unfold maxLen at hn h1 h2 h3
  go_enter Try.func12, Try.ntmps12
  go_wp2
  all_goals first
    | (go_ret; exact fit_no _ _)
    | (go_loop [9, 10] (fun t q => ∃ j k : Nat, j ≤ 1048576 ∧ k ≤ n ∧ t = .int .i64 j ∧ q = .int .i64 k) (fun _ q => n - (intOf q).toNat)
       case atStart => exact ⟨nm.size + id.size + x.size + 16 * n, 0, by omega, Nat.zero_le _, by go_num, rfl⟩
       case round =>
         obtain ⟨j, k, hj, hk, rfl, rfl⟩ := hrel
         by_cases hlt : k < n
         · rcases hr with h | ⟨b, off, rfl, ht⟩
           · omega
           have hc := ht k hlt
           go_wp2
           all_goals first
             | (go_ret; exact fit_no _ _)
             | (go_round
                case rel => exact ⟨j + (s k).size, k + 1, by omega, by omega, by go_num, by go_num⟩
                case measure => simp [intOf]; omega)
         · go_wp2
           go_ret
           exact fit_yes _ (by omega))

set_option maxHeartbeats 1000000 in
theorem zzBytes15_any (ao : Option Addr) (n cap : Nat) (nm id x : ByteArray) (s : Nat → ByteArray) (w : World) (hn : n ≤ maxLen) (h1 : nm.size ≤ maxLen) (h2 : id.size ≤ maxLen) (h3 : x.size ≤ maxLen) (hr : SRow w ao n s) :
    Calls Try.prog 15 #[.string nm, .slice ao n cap, .string id, .string x] w (Fit True w) := by
  unfold maxLen at hn h1 h2 h3
  go_enter Try.func15, Try.ntmps15
  go_wp2
  all_goals first
    | (go_ret; exact fit_no _ _)
    | (go_loop [9, 10] (fun t q => ∃ j k : Nat, j ≤ 1048576 ∧ k ≤ n ∧ t = .int .i64 j ∧ q = .int .i64 k) (fun _ q => n - (intOf q).toNat)
       case atStart => exact ⟨nm.size + n, 0, by omega, Nat.zero_le _, by go_num, rfl⟩
       case round =>
         obtain ⟨j, k, hj, hk, rfl, rfl⟩ := hrel
         by_cases hlt : k < n
         · rcases hr with h | ⟨b, off, rfl, ht⟩
           · omega
           have hc := ht k hlt
           go_wp2
           all_goals first
             | (go_ret; exact fit_no _ _)
             | (go_round
                case rel => exact ⟨j + (s k).size, k + 1, by omega, by omega, by go_num, by go_num⟩
                case measure => simp [intOf]; omega)
         · go_wp2
           all_goals first
             | (go_ret; exact fit_no _ _)
             | (go_ret; exact fit_yes _ trivial))

end Go.Proofs.Qxb6603378a.Rev
