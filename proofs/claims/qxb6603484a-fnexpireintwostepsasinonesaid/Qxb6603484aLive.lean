/-
  THE WALKS of ZZexpire, liveIs, compact, restIs over one state.
-/
import Derived.Test.Qxb6603484aExp
namespace Go.Proofs.Qxb6603484a
open Go.RowKit
set_option linter.unusedVariables false

/-- The Assembler at b: n names, k of them gone through; the names left are those of F from K on, up to N. -/
def St (w : World) (base b m : Nat) (p : Option Addr) (n cap k : Nat) (lat : Int) (N K : Nat) (F : Nat → WD) : Prop :=
  k ≤ n ∧ K ≤ N ∧ n - k = N - K ∧ n ≤ N ∧ Blk w b (aCells m (.slice p n cap) (k : Nat) lat) 85 ∧ w.heap[m]? = some (.map #[] 0) ∧
    ∃ xs, w.ownsRow base 90 6 (.slice p n cap) n xs ∧ ∀ i, K + i < N → ∀ q, q < 6 → xs[(k + i) * 6 + q]? = (F (K + i)).cells[q]?

theorem fl_shift (l : Int) (F G : Nat → WD) : ∀ (r n k N K : Nat), n - k = r → k ≤ n → K ≤ N → n - k = N - K → (∀ i, K + i < N → G (k + i) = F (K + i)) → fl l G n k + K = fl l F N K + k
  | 0, n, k, N, K, hr, hk, hK, he, hG => by rw [fl_stop (by omega), fl_stop (by omega)]; omega
  | r + 1, n, k, N, K, hr, hk, hK, he, hG => by
    have h0 : G k = F K := by simpa using hG 0 (by omega)
    by_cases ho : older l (F K).t = true
    · rw [fl_step (by omega) (by rw [h0]; exact ho), fl_step (show K < N by omega) ho]
      have := fl_shift l F G r n (k + 1) N (K + 1) (by omega) (by omega) (by omega) (by omega) (fun i hi => by
        have := hG (i + 1) (by omega)
        rwa [show k + 1 + i = k + (i + 1) by omega, show K + 1 + i = K + (i + 1) by omega])
      omega
    · have ho' : older l (F K).t = false := by simpa using ho
      rw [fl_live (by omega) (by rw [h0]; exact ho'), fl_live (show K < N by omega) ho']
      omega
theorem fl_ge (l : Int) (F : Nat → WD) (n : Nat) : ∀ (r k : Nat), n - k = r → k ≤ fl l F n k
  | 0, k, hr => by rw [fl_stop (by omega)]; exact Nat.le_refl _
  | r + 1, k, hr => by
    by_cases ho : older l (F k).t = true
    · rw [fl_step (by omega) ho]
      have := fl_ge l F n r (k + 1) (by omega)
      omega
    · rw [fl_live (by omega) (by simpa using ho)]
      exact Nat.le_refl _
theorem fl_le (l : Int) (F : Nat → WD) (n : Nat) : ∀ (r k : Nat), n - k = r → k ≤ n → fl l F n k ≤ n
  | 0, k, hr, hk => by rw [fl_stop (by omega)]; exact hk
  | r + 1, k, hr, hk => by
    by_cases ho : older l (F k).t = true
    · rw [fl_step (by omega) ho]
      exact fl_le l F n r (k + 1) (by omega) (by omega)
    · rw [fl_live (by omega) (by simpa using ho)]
      exact hk
/-- Two clocks, the second not earlier: on from where the first stopped the second comes to where it would have come alone. -/
theorem fl_two (l1 l2 : Int) (hl : l1 ≤ l2) (F : Nat → WD) (n : Nat) : ∀ (r k : Nat), n - k = r → fl l2 F n (fl l1 F n k) = fl l2 F n k
  | 0, k, hr => by rw [fl_stop (l := l1) (by omega)]
  | r + 1, k, hr => by
    by_cases ho : older l1 (F k).t = true
    · have ho2 : older l2 (F k).t = true := by unfold older at ho ⊢; simp at ho ⊢; omega
      rw [fl_step (l := l1) (by omega) ho, fl_step (l := l2) (show k < n by omega) ho2]
      exact fl_two l1 l2 hl F n r (k + 1) (by omega)
    · rw [fl_live (l := l1) (by omega) (by simpa using ho)]

def shF (F : Nat → WD) (k K : Nat) (j : Nat) : WD := if j < k then ⟨0, 0, 0, 0⟩ else F (j - k + K)
theorem shF_eq (F : Nat → WD) (k K i : Nat) : shF F k K (k + i) = F (K + i) := by
  unfold shF
  rw [if_neg (by omega)]
  congr 1
  omega

theorem exp20_any (base b m : Nat) (p : Option Addr) (n cap k : Nat) (lat : Int) (N K : Nat) (F : Nat → WD) (w : World) (h : St w base b m p n cap k lat N K F) (ht : Tms N F) (hN : N ≤ 32768) (h1 : -9223372036854775808 ≤ lat) (h2 : lat ≤ 9223372036854775807) :
    Calls Try.prog 20 #[.pointer (some ⟨b, 0, none⟩)] w fun r w' => r = .returned (.tuple #[]) ∧ ∃ n' k', (k' = 0 ∨ 2 * k' < n') ∧ St w' base b m p n' cap k' lat N (fl lat F N K) F ∧ Apart (fun q => q = b ∨ (Value.slice p n cap).ownBlock = some q) w w' := by
  obtain ⟨hk, hK, he, hn, hB, hM, xs, hO, hx⟩ := h
  have hs := fl_shift lat F (shF F k K) (n - k) n k N K rfl hk hK he (fun i _ => shF_eq F k K i)
  have hg := fl_ge lat F N (N - K) K rfl
  have hl := fl_le lat F N (N - K) K rfl hK
  go_enter Try.func20, Try.ntmps20
  go_wp2_with fail
  refine (expire_any base b m p n cap k xs lat (shF F k K) w hB hM hO ?_ ?_ hk (by omega) h1 h2).mono ?_
  · intro i hi hin q hq
    have := hx (i - k) (by omega) q hq
    rw [← shF_eq F k K, show k + (i - k) = i by omega] at this
    exact this
  · intro j hj
    by_cases hjk : j < k
    · unfold shF
      rw [if_pos hjk]
      exact ⟨by decide, by decide⟩
    · have := ht (K + (j - k)) (by omega)
      rw [← shF_eq F k K, show k + (j - k) = j by omega] at this
      exact this
  rintro r w' ⟨rfl, n', k', xs', g1, g2, g3, g4, gB, gM, gO, gN, gA⟩
  go_wp2_with fail
  go_end0
  refine ⟨rfl, n', k', g4, ⟨g1, hl, by omega, by omega, gB, gM, xs', gO, ?_⟩, gA⟩
  intro i hi q hq
  have := gN i (by omega) q hq
  have hge := fl_ge lat (shF F k K) n (n - k) k rfl
  have e : shF F k K (fl lat (shF F k K) n k + i) = F (fl lat F N K + i) := by
    have := shF_eq F k K (fl lat (shF F k K) n k + i - k)
    rw [show k + (fl lat (shF F k K) n k + i - k) = fl lat (shF F k K) n k + i by omega, show K + (fl lat (shF F k K) n k + i - k) = fl lat F N K + i by omega] at this
    exact this
  rw [e] at this
  exact this

theorem own_cells {w : World} {base g n cap j : Nat} {xs : List Value} {d : WD} (h : w.ownsRow base 90 6 (.slice (some ⟨g, 0, none⟩) n cap) n xs) (hx : ∀ q, q < 6 → xs[j * 6 + q]? = d.cells[q]?) : ∀ q, q < 6 → w.cell? ⟨g, j * 6 + q, none⟩ = d.cells[q]? := by
  intro q hq
  have := hx q hq
  cases e : d.cells[q]? with
  | none =>
    have := List.getElem?_eq_none_iff.mp e
    simp [WD.cells] at this
    omega
  | some u => exact own_cell h (this.trans e)

theorem compact_any (b m : Nat) (p : Option Addr) (n cap k : Nat) (lat : Int) (w : World) (h : Blk w b (aCells m (.slice p n cap) (k : Nat) lat) 85) (hc : k = 0 ∨ 2 * k < n) (hn : n ≤ 32768) :
    Calls Try.prog 23 #[.pointer (some ⟨b, 0, none⟩)] w fun r w' => r = .returned (.bool true) ∧ w' = w := by
  by_cases h0 : k = 0
  · subst h0
    go_enter Try.func23, Try.ntmps23
    go_wp2_with fail
    refine (zzwaited_any _ _ _ _ _ _ h).mono ?_
    rintro r w1 ⟨rfl, rfl⟩
    go_wp2_with fail
    refine (zzlen_any _ _ _ _ _ _ _ _ h).mono ?_
    rintro r w1 ⟨rfl, rfl⟩
    go_wp2_with fail
    go_ret
    exact ⟨rfl, rfl⟩
  · have h2 : decide (2 * (k : Int) < (n : Int)) = true := by simp; omega
    have h3 : ((k : Int) == 0) = false := by simp; omega
    have h4 : IntKind.i64.wrap (2 * (k : Int)) = 2 * (k : Int) := by rw [IntKind.wrap_i64]; omega
    go_enter Try.func23, Try.ntmps23
    go_wp2_with fail
    refine (zzwaited_any _ _ _ _ _ _ h).mono ?_
    rintro r w1 ⟨rfl, rfl⟩
    go_wp2_with fail
    refine (zzlen_any _ _ _ _ _ _ _ _ h).mono ?_
    rintro r w1 ⟨rfl, rfl⟩
    go_wp2_with fail
    go_ret
    exact ⟨rfl, rfl⟩

theorem restIs_any (b m : Nat) (v : Value) (k lat : Int) (w : World) (h : Blk w b (aCells m v k lat) 85) (hm : w.heap[m]? = some (.map #[] 0)) (h1 : -9223372036854775808 ≤ lat) (h2 : lat ≤ 9223372036854775807) :
    Calls Try.prog 24 #[.pointer (some ⟨b, 0, none⟩), .int .i64 lat] w fun r w' => r = .returned (.bool true) ∧ Below w.heap.size w w' := by
  go_enter Try.func24, Try.ntmps24
  go_wp2_with fail
  refine (zzcounts_any _ _ _ _ _ _ h hm).mono ?_
  rintro r w1 ⟨rfl, hb1⟩
  go_wp2_with fail
  refine (zzlatest_any _ _ _ _ _ _ (h.later hb1) h1 h2).mono ?_
  rintro r w2 ⟨rfl, hb2⟩
  have hb : Below w.heap.size w w2 := hb1.trans (hb2.mono hb1.size)
  go_wp2_with fail
  refine (zzemit_any _ _ _ _ _ _ (h.later hb)).mono ?_
  rintro r w3 ⟨rfl, rfl⟩
  go_wp2_with fail
  go_ret
  exact ⟨rfl, hb⟩

set_option maxHeartbeats 800000 in
theorem liveIs_any (base b m : Nat) (p : Option Addr) (n cap k : Nat) (lat : Int) (N K : Nat) (F : Nat → WD) (w : World) (h : St w base b m p n cap k lat N K F) (ht : Tms N F) (hN : N ≤ 32768) (pw : Option Addr) (capw : Nat) (hw : WRow w pw N F) :
    Calls Try.prog 22 #[.pointer (some ⟨b, 0, none⟩), .slice pw N capw, .int .i64 K] w fun r w' => r = .returned (.bool true) ∧ Below w.heap.size w w' := by
  obtain ⟨hk, hK, he, hn, hB, hM, xs, hO, hx⟩ := h
  have f1 : decide ((k : Int) < 0) = false := by simp
  have f2 : decide (n < k) = false := by simp; omega
  have f3 : IntKind.i64.wrap ((n : Int) - k) = (n : Int) - k := by rw [IntKind.wrap_i64]; omega
  have f4 : IntKind.i64.wrap ((N : Int) - K) = (N : Int) - K := by rw [IntKind.wrap_i64]; omega
  have f5 : ((n : Int) - k != (N : Int) - K) = false := by simp; omega
  go_enter Try.func22, Try.ntmps22
  go_wp2_with fail
  refine (zzwaited_any _ _ _ _ _ _ hB).mono ?_
  rintro r w1 ⟨rfl, rfl⟩
  go_wp2_with fail
  refine (zzlen_any _ _ _ _ _ _ _ _ hB).mono ?_
  rintro r w2 ⟨rfl, rfl⟩
  go_wp2_with fail
  go_loopw [9] (fun t wr => ∃ i : Nat, i ≤ n - k ∧ t = .int .i64 i ∧ Below w2.heap.size w2 wr) (fun t _ => n - k - (intOf t).toNat)
  case atStart => exact ⟨0, Nat.zero_le _, rfl, Below.refl _ _⟩
  case round =>
    obtain ⟨i, hi, rfl, hb⟩ := hrel
    by_cases hlt : i < n - k
    · have e1 : decide ((i : Int) < (n : Int) - k) = true := by simp; omega
      rcases hw with h | ⟨b2, off, e, ha⟩
      · omega
      cases e
      obtain ⟨d0, d1, d2, d3⟩ := wAt_later hb ha (K + i) (by omega)
      obtain ⟨g, cap', e, _, hg⟩ := hO.form (by omega)
      cases e
      obtain ⟨t1, t2⟩ := ht (K + i) (by omega)
      have HW := waiterIs_any b m g n cap (k + i) k lat (F (K + i)) wr (hB.later hb) (by omega) (own_cells (own_below hO hb) (hx i (by omega))) t1 t2 (by omega) (by have := hb.size; omega)
      simp only [Int.natCast_add] at HW
      have g1 : IntKind.i64.wrap ((k : Int) + i) = (k : Int) + i := by rw [IntKind.wrap_i64]; omega
      have g2 : IntKind.i64.wrap ((K : Int) + i) = (K : Int) + i := by rw [IntKind.wrap_i64]; omega
      have g3 : ((K : Int) + i).toNat = K + i := by omega
      go_wp2_with fail
      refine HW.mono ?_
      rintro r w3 ⟨rfl, hb3⟩
      go_wp2_with fail
      go_roundw
      case rel => exact ⟨i + 1, by omega, by go_num, hb.trans (hb3.mono hb.size)⟩
      case measure => simp [intOf]; omega
    · have e1 : decide ((i : Int) < (n : Int) - k) = false := by simp; omega
      go_wp2_with fail
      go_ret
      exact ⟨rfl, hb⟩

end Go.Proofs.Qxb6603484a
