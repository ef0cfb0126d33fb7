/-
  THE WALK of FnStringEndQuoted.
-/
import Derived.Test.Qxb6603378aStr
namespace Go.Proofs.Qxb6603378a
open Go.RowKit Plain

theorem ret_bool {a b : Bool} (h : a = b) : Ending.returned (.bool a) = .returned (.bool b) := by rw [h]

def okB (n : Nat) : Bool := decide (n ≤ 1048576)

set_option maxHeartbeats 400000 in
theorem zzBytes30_any (a0 a1 a2 : Option Addr) (n0 n1 n2 c0 c1 c2 : Nat) (w : World) (h0 : n0 ≤ maxLen) (h1 : n1 ≤ maxLen) (h2 : n2 ≤ maxLen) :
    Calls Try.prog 30 #[.slice a0 n0 c0, .slice a1 n1 c1, .slice a2 n2 c2] w fun r w' => r = .returned (.bool (okB (n0 + n1 + n2))) ∧ w' = w := by
  unfold maxLen at h0 h1 h2
  unfold okB
  by_cases k0 : n0 ≤ 1048576
  · by_cases k1 : n1 ≤ 1048576
    · by_cases k2 : n0 + n1 ≤ 1048576
      · by_cases k3 : n2 ≤ 1048576
        · by_cases k4 : n0 + n1 + n2 ≤ 1048576
          · have hd : Hid (decide (n0 + n1 + n2 ≤ 1048576) = true) := by show _ = true; simp; omega
            go_enter Try.func30, Try.ntmps30
            go_wp2
            go_ret
            exact ⟨ret_bool hd.out.symm, rfl⟩
          · have hd : Hid (decide (n0 + n1 + n2 ≤ 1048576) = false) := by show _ = false; simp; omega
            go_enter Try.func30, Try.ntmps30
            go_wp2
            go_ret
            exact ⟨ret_bool hd.out.symm, rfl⟩
        · have hd : Hid (decide (n0 + n1 + n2 ≤ 1048576) = false) := by show _ = false; simp; omega
          go_enter Try.func30, Try.ntmps30
          go_wp2
          go_ret
          exact ⟨ret_bool hd.out.symm, rfl⟩
      · have hd : Hid (decide (n0 + n1 + n2 ≤ 1048576) = false) := by show _ = false; simp; omega
        go_enter Try.func30, Try.ntmps30
        go_wp2
        go_ret
        exact ⟨ret_bool hd.out.symm, rfl⟩
    · have hd : Hid (decide (n0 + n1 + n2 ≤ 1048576) = false) := by show _ = false; simp; omega
      go_enter Try.func30, Try.ntmps30
      go_wp2
      go_ret
      exact ⟨ret_bool hd.out.symm, rfl⟩
  · have hd : Hid (decide (n0 + n1 + n2 ≤ 1048576) = false) := by show _ = false; simp; omega
    go_enter Try.func30, Try.ntmps30
    go_wp2
    go_ret
    exact ⟨ret_bool hd.out.symm, rfl⟩

theorem quoted_big (a0 a1 a2 : Option Addr) (n0 n1 n2 c0 c1 c2 : Nat) (w : World) (h0 : n0 ≤ maxLen) (h1 : n1 ≤ maxLen) (h2 : n2 ≤ maxLen) (hb : ¬ n0 + n1 + n2 ≤ 1048576) :
    Calls Try.prog 10 #[.slice a0 n0 c0, .slice a1 n1 c1, .slice a2 n2 c2] w fun r w' => r = .returned (.bool true) ∧ w' = w := by
  have hd : okB (n0 + n1 + n2) = false := by unfold okB; simp; omega
  go_enter Try.func10, Try.ntmps10
  go_wp2_with (go_at_call 30; refine (zzBytes30_any a0 a1 a2 n0 n1 n2 c0 c1 c2 _ h0 h1 h2).mono ?_; rintro r w' ⟨rfl, rfl⟩)
  go_ret
  exact ⟨rfl, rfl⟩

/-- The first k bytes of g. -/
def pre (g : Nat → Int) (k : Nat) : List Int := (List.range k).map g
theorem pre_length (g : Nat → Int) (k : Nat) : (pre g k).length = k := by simp [pre]
theorem pre_succ (g : Nat → Int) (k : Nat) : pre g (k + 1) = pre g k ++ [g k] := by simp [pre, List.range_succ]

/-- The text's row: its block, its content, what lies below it. -/
def Own (B C : Nat) (w3 wr : World) (k : Nat) (L : List Int) : Prop :=
  wr.ownsRow B 5 1 (.slice (some ⟨B, 0, none⟩) k C) k (L.map (Value.int .u8)) ∧ Below B w3 wr ∧ B ≤ wr.heap.size

theorem own_app {B C k : Nat} {w3 wr w1 : World} {L : List Int} {c : Int} {o : Obj} (h : Own B C w3 wr k L)
    (h1 : w1.ownsRow B 5 1 (.slice (some ⟨B, 0, none⟩) (k + 1) C) (k + 1) (L.map (Value.int .u8) ++ [.int .u8 c])) (hg : (wr.alloc o).grownBy w1 (some B)) : Own B C w3 w1 (k + 1) (L ++ [c]) := by
  refine ⟨by simpa using h1, (h.2.1.alloc h.2.2 _).grown hg (by simp; have := h.2.2; omega) (fun k hk => by cases hk; exact Nat.le_refl _), ?_⟩
  have := hg.size
  simp at this
  have := h.2.2
  omega

theorem own_txt {B C k : Nat} {w3 wr : World} {L : List Int} (h : Own B C w3 wr k L) : Txt wr B 0 k (fun j => L.getD j 0) ∧ L.length = k := by
  have hl := h.1.1
  simp at hl
  refine ⟨fun i hi => ?_, hl⟩
  rw [Nat.zero_add, h.1.cellAt i (by omega)]
  simp [List.getD, hl, hi]

theorem esc_pre_succ (g : Nat → Int) (k : Nat) : esc (pre g (k + 1)) = esc (pre g k) ++ (if g k = 34 ∨ g k = 92 then [92, g k] else [g k]) := by
  rw [pre_succ, esc_append]
  by_cases h : g k = 34 ∨ g k = 92 <;> simp [esc, h]

theorem quoted_end {A pl S : List Int} {L : List Int} {n m n0 : Nat} (hL : L = (A ++ 34 :: (esc pl ++ [34])) ++ S) (hn : L.length = n) (hA : A.length = n0) (hm : m = n0 + (esc pl).length + 2) :
    se (fun j => L.getD j 0) n (pl.length + 1) (n0 + 1) = some m := by
  subst hn hA hm
  have := se_quoted A pl S
  rw [hL]
  simpa using this

set_option maxHeartbeats 1000000 in
theorem quoted_any (a0 a1 a2 : Option Addr) (n0 n1 n2 c0 c1 c2 : Nat) (g0 g1 g2 : Nat → Int) (w : World) (hs : n0 + n1 + n2 ≤ 1048576)
    (e0 : a0 = none → n0 = 0 ∧ c0 = 0) (e1 : a1 = none → n1 = 0 ∧ c1 = 0) (e2 : a2 = none → n2 = 0 ∧ c2 = 0) (r0 : Row w a0 n0 g0) (r1 : Row w a1 n1 g1) (r2 : Row w a2 n2 g2) :
    Calls Try.prog 10 #[.slice a0 n0 c0, .slice a1 n1 c1, .slice a2 n2 c2] w fun r w' => r = .returned (.bool true) ∧ Below w.heap.size w w' := by
  have hd : okB (n0 + n1 + n2) = true := by unfold okB; simp; omega
  obtain ⟨i0, hi, hz0, hz1, hz2⟩ := info_parts Try.info5
  go_enter Try.func10, Try.ntmps10
  go_wp2_with (go_at_call 30; refine (zzBytes30_any a0 a1 a2 n0 n1 n2 c0 c1 c2 _ (by unfold maxLen; omega) (by unfold maxLen; omega) (by unfold maxLen; omega)).mono ?_; rintro r w' ⟨rfl, rfl⟩)
  refine (cloneBytes_row a0 n0 c0 g0 _ (by omega) e0 r0).mono ?_
  rintro r w1 ⟨p0, rfl, q0, b1⟩
  go_wp2_with fail
  refine (cloneBytes_row a1 n1 c1 g1 _ (by omega) e1 (r1.later b1)).mono ?_
  rintro r w2 ⟨p1, rfl, q1, b2⟩
  have b12 := b1.trans (b2.mono b1.size)
  go_wp2_with fail
  refine (cloneBytes_row a2 n2 c2 g2 _ (by omega) e2 (r2.later b12)).mono ?_
  rintro r w3 ⟨p2, rfl, q2, b3⟩
  have b13 := b12.trans (b3.mono b12.size)
  have q0' := q0.later (b2.trans (b3.mono b2.size))
  have q1' := q1.later b3
  clear q0 q1 b1 b2 b3 b12 r0 r1 r2 e0 e1 e2
  go_wp2_with (at_make; refine wpList_make_own _ rfl _ _ 31 rfl w3.heap.size 5 i0 (.int .u8 0) 1 Try.underlying31 hi hz0 hz1 _ _ _ (n0 + 2 * n1 + n2 + 2) rfl rfl (by omega) ?b2 ?b3 (Nat.le_refl _) ?_)
  case b2 => rw [hz2]; omega
  case b3 => unfold maxLen; omega
  intro w4 hown4 hgrow4
  have B4 : Below w3.heap.size w3 w4 := (Below.refl _ _).grown hgrow4 (Nat.le_refl _) (fun k h => by cases h)
  have S4 : w3.heap.size ≤ w4.heap.size := hgrow4.size
  have O4 : Own w3.heap.size (n0 + 2 * n1 + n2 + 2) w3 w4 0 [] := ⟨hown4, B4, S4⟩
  clear hown4 hgrow4 B4
  go_wp2
  go_loopw [7, 8] (fun t s wr => ∃ k : Nat, k ≤ n0 ∧ s = .int .i64 k ∧ t = .slice (some ⟨w3.heap.size, 0, none⟩) k (n0 + 2 * n1 + n2 + 2) ∧ Own w3.heap.size (n0 + 2 * n1 + n2 + 2) w3 wr k (pre g0 k)) (fun _ s _ => n0 - (intOf s).toNat)
  case atStart => exact ⟨0, Nat.zero_le _, rfl, rfl, O4⟩
  case round =>
    obtain ⟨k, hk, rfl, rfl, O⟩ := hrel
    by_cases hlt : k < n0
    · rcases q0' with h | ⟨b0, o0, rfl, t0⟩
      · omega
      have hc : wr.cell? ⟨b0, o0 + k, none⟩ = some (.int .u8 (g0 k)) := cell_later O.2.1 (t0 k hlt)
      go_wp2_with (at_builtin; refine wpList_append_fits _ rfl (.tmp 63) (.tmp 68) 31 rfl w3.heap.size 5 i0 1 Try.underlying31 hi hz1 w3.heap.size k (n0 + 2 * n1 + n2 + 2) _ rfl (O.1.alloc _) ⟨wr.heap.size, 0, none⟩ 1 1 [.int .u8 (g0 k)] rfl rfl (cell_one_new _ _ _) (by intro u hu; simp at hu; subst hu; rfl) (by omega) ?_; intro w5 hown5 hgrow5)
      have R := own_app O hown5 hgrow5
      rw [← pre_succ] at R
      clear hown5 hgrow5 O hc
      go_roundw
      case rel => exact ⟨k + 1, by omega, by go_num, rfl, R⟩
      case measure => simp [intOf]; omega
    · have hkn : k = n0 := by omega
      subst hkn
      clear hlt q0' O4
      go_wp2_with (at_builtin; refine wpList_append_fits _ rfl (.tmp 70) (.tmp 71) 31 rfl w3.heap.size 5 i0 1 Try.underlying31 hi hz1 w3.heap.size k (k + 2 * n1 + n2 + 2) _ rfl (O.1.alloc _) ⟨wr.heap.size, 0, none⟩ 1 1 [_] rfl rfl (cell_one_new _ _ _) (by intro u hu; simp at hu; subst hu; rfl) (by omega) ?_; intro w5 hown5 hgrow5)
      have R := own_app O hown5 hgrow5
      clear hown5 hgrow5 O
      go_wp2
      go_loopw [7, 9] (fun t s wr => ∃ j m : Nat, j ≤ n1 ∧ m ≤ k + 1 + 2 * j ∧ s = .int .i64 j ∧ t = .slice (some ⟨w3.heap.size, 0, none⟩) m (k + 2 * n1 + n2 + 2) ∧ Own w3.heap.size (k + 2 * n1 + n2 + 2) w3 wr m (pre g0 k ++ 34 :: esc (pre g1 j))) (fun _ s _ => n1 - (intOf s).toNat)
      case atStart => exact ⟨0, k + 1, Nat.zero_le _, by omega, rfl, rfl, R⟩
      case round =>
        clear R
        obtain ⟨j, m, hj, hm, rfl, rfl, O⟩ := hrel
        by_cases hlt : j < n1
        · rcases q1' with h | ⟨b1, o1, rfl, t1⟩
          · omega
          have hc : wr.cell? ⟨b1, o1 + j, none⟩ = some (.int .u8 (g1 j)) := cell_later O.2.1 (t1 j hlt)
          by_cases c1 : g1 j = 34
          · have E : Hid ((pre g0 k ++ 34 :: esc (pre g1 j)) ++ [92] ++ [34] = pre g0 k ++ 34 :: esc (pre g1 (j + 1))) := by show _ = _; rw [esc_pre_succ]; simp [c1]
            go_wp2_with (first | (at_builtin; refine wpList_append_fits _ rfl (.tmp 89) (.tmp 90) 31 rfl w3.heap.size 5 i0 1 Try.underlying31 hi hz1 w3.heap.size (m) (k + 2 * n1 + n2 + 2) _ rfl (O.1.alloc _) ⟨wr.heap.size, 0, none⟩ 1 1 [_] rfl rfl (cell_one_new _ _ _) (by intro u hu; simp at hu; subst hu; rfl) (by omega) ?_; intro w5 hown5 hgrow5) | (at_builtin; refine wpList_append_fits _ rfl (.tmp 92) (.tmp 94) 31 rfl w3.heap.size 5 i0 1 Try.underlying31 hi hz1 w3.heap.size (m + 1) (k + 2 * n1 + n2 + 2) _ rfl (hown5.alloc _) ⟨w5.heap.size, 0, none⟩ 1 1 [_] rfl rfl (cell_one_new _ _ _) (by intro u hu; simp at hu; subst hu; rfl) (by omega) ?_; intro w6 hown6 hgrow6))
            have R1 := own_app O hown5 hgrow5
            have R2 := own_app (c := 34) R1 (by simpa using hown6) hgrow6
            rw [E.out] at R2
            clear hown5 hgrow5 O hc R1 hown6 hgrow6
            go_roundw
            case rel => exact ⟨j + 1, m + 2, by omega, by omega, by go_num, rfl, R2⟩
            case measure => simp [intOf]; omega
          · by_cases c2 : g1 j = 92
            · have E : Hid ((pre g0 k ++ 34 :: esc (pre g1 j)) ++ [92] ++ [92] = pre g0 k ++ 34 :: esc (pre g1 (j + 1))) := by show _ = _; rw [esc_pre_succ]; simp [c2]
              go_wp2_with (first | (at_builtin; refine wpList_append_fits _ rfl (.tmp 89) (.tmp 90) 31 rfl w3.heap.size 5 i0 1 Try.underlying31 hi hz1 w3.heap.size (m) (k + 2 * n1 + n2 + 2) _ rfl (O.1.alloc _) ⟨wr.heap.size, 0, none⟩ 1 1 [_] rfl rfl (cell_one_new _ _ _) (by intro u hu; simp at hu; subst hu; rfl) (by omega) ?_; intro w5 hown5 hgrow5) | (at_builtin; refine wpList_append_fits _ rfl (.tmp 92) (.tmp 94) 31 rfl w3.heap.size 5 i0 1 Try.underlying31 hi hz1 w3.heap.size (m + 1) (k + 2 * n1 + n2 + 2) _ rfl (hown5.alloc _) ⟨w5.heap.size, 0, none⟩ 1 1 [_] rfl rfl (cell_one_new _ _ _) (by intro u hu; simp at hu; subst hu; rfl) (by omega) ?_; intro w6 hown6 hgrow6))
              have R1 := own_app O hown5 hgrow5
              have R2 := own_app (c := 92) R1 (by simpa using hown6) hgrow6
              rw [E.out] at R2
              clear hown5 hgrow5 O hc R1 hown6 hgrow6
              go_roundw
              case rel => exact ⟨j + 1, m + 2, by omega, by omega, by go_num, rfl, R2⟩
              case measure => simp [intOf]; omega
            · have E : Hid ((pre g0 k ++ 34 :: esc (pre g1 j)) ++ [g1 j] = pre g0 k ++ 34 :: esc (pre g1 (j + 1))) := by show _ = _; rw [esc_pre_succ]; simp [c1, c2]
              have d1 : (g1 j == 34) = false := by simpa using c1
              have d2 : (g1 j == 92) = false := by simpa using c2
              go_wp2_with (at_builtin; refine wpList_append_fits _ rfl (.tmp 92) (.tmp 94) 31 rfl w3.heap.size 5 i0 1 Try.underlying31 hi hz1 w3.heap.size (m) (k + 2 * n1 + n2 + 2) _ rfl (O.1.alloc _) ⟨wr.heap.size, 0, none⟩ 1 1 [_] rfl rfl (cell_one_new _ _ _) (by intro u hu; simp at hu; subst hu; rfl) (by omega) ?_; intro w5 hown5 hgrow5)
              have R1 := own_app O hown5 hgrow5
              rw [E.out] at R1
              clear hown5 hgrow5 O hc
              go_roundw
              case rel => exact ⟨j + 1, m + 1, by omega, by omega, by go_num, rfl, R1⟩
              case measure => simp [intOf]; omega
        · have hjn : j = n1 := by omega
          subst hjn
          clear hlt q1'
          go_wp2_with (at_builtin; refine wpList_append_fits _ rfl (.tmp 96) (.tmp 97) 31 rfl w3.heap.size 5 i0 1 Try.underlying31 hi hz1 w3.heap.size (m) (k + 2 * j + n2 + 2) _ rfl (O.1.alloc _) ⟨wr.heap.size, 0, none⟩ 1 1 [_] rfl rfl (cell_one_new _ _ _) (by intro u hu; simp at hu; subst hu; rfl) (by omega) ?_; intro w5 hown5 hgrow5)
          have R := own_app O hown5 hgrow5
          clear hown5 hgrow5 O
          go_wp2
          go_loopw [7, 12] (fun t s wr => ∃ i : Nat, i ≤ n2 ∧ s = .int .i64 i ∧ t = .slice (some ⟨w3.heap.size, 0, none⟩) (m + 1 + i) (k + 2 * j + n2 + 2) ∧ Own w3.heap.size (k + 2 * j + n2 + 2) w3 wr (m + 1 + i) ((pre g0 k ++ 34 :: (esc (pre g1 j) ++ [34])) ++ pre g2 i)) (fun _ s _ => n2 - (intOf s).toNat)
          case atStart => exact ⟨0, Nat.zero_le _, rfl, rfl, by simpa [pre] using R⟩
          case round =>
            obtain ⟨i, hi2, rfl, rfl, O⟩ := hrel
            by_cases hlt : i < n2
            · rcases q2 with h | ⟨b2, o2, rfl, t2⟩
              · omega
              have hc : wr.cell? ⟨b2, o2 + i, none⟩ = some (.int .u8 (g2 i)) := cell_later O.2.1 (t2 i hlt)
              go_wp2_with (at_builtin; refine wpList_append_fits _ rfl (.tmp 107) (.tmp 112) 31 rfl w3.heap.size 5 i0 1 Try.underlying31 hi hz1 w3.heap.size (m + 1 + i) (k + 2 * j + n2 + 2) _ rfl (O.1.alloc _) ⟨wr.heap.size, 0, none⟩ 1 1 [_] rfl rfl (cell_one_new _ _ _) (by intro u hu; simp at hu; subst hu; rfl) (by omega) ?_; intro w5 hown5 hgrow5)
              have R1 := own_app O hown5 hgrow5
              rw [List.append_assoc, ← pre_succ] at R1
              clear hown5 hgrow5 O hc
              go_roundw
              case rel => exact ⟨i + 1, by omega, by go_num, rfl, R1⟩
              case measure => simp [intOf]; omega
            · have hin : i = n2 := by omega
              subst hin
              have hl := own_txt R
              have hT := own_txt O
              have hse := quoted_end (m := m + 1) rfl hT.2 (pre_length g0 k) (by have := hl.2; simp [pre_length] at this; omega)
              have hB : Below w'.heap.size w' wr := b13.trans (O.2.1.mono b13.size)
              have hcl : m + 1 + i ≤ 1099511627776 := by omega
              clear hl R O
              go_wp2_with (go_at_call 28; refine (zzStringEnd_any _ 0 _ _ k (m + 1) _ _ _ hcl hT.1 hse).mono ?_; rintro r w' ⟨rfl, rfl⟩)
              go_ret
              exact ⟨ret_bool (by simp), hB⟩

end Go.Proofs.Qxb6603378a
