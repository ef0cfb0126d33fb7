/-
  THE WALKS of stringEnd, ZZStringEnd, cloneBytes.
-/
import Derived.Test.Qxb6603378aProg
import Derived.Test.Qxb6603378aPlain
import Derived.WalkKit
import Derived.WalkSpells
namespace Go.Proofs.Qxb6603378a
open Go.RowKit Plain

/-- n bytes lie in block b from offset off on. -/
def Txt (w : World) (b off n : Nat) (g : Nat → Int) : Prop := ∀ i, i < n → w.cell? ⟨b, off + i, none⟩ = some (.int .u8 (g i))

set_option maxHeartbeats 400000 in
theorem stringEnd_any (b off n cap i e f : Nat) (g : Nat → Int) (w : World) (hn : n ≤ 1099511627776) (ht : Txt w b off n g) (hs : se g n f (i + 1) = some e) :
    Calls Try.prog 32 #[.slice (some ⟨b, off, none⟩) n cap, .int .i64 i] w fun r w' => r = .returned (.int .i64 e) ∧ w' = w := by
  have hb := se_some hs
  have hi : i < 1099511627776 := by omega
  have HS : Hid (se g n f (i + 1) = some e) := hs
  clear hs hb
  go_enter Try.func32, Try.ntmps32
  go_wp2
  go_loop [1] (fun s => ∃ p f' : Nat, s = .int .i64 p ∧ Hid (se g n f' p = some e)) (fun s => n - (intOf s).toNat)
  case atStart => exact ⟨i + 1, f, by go_num, HS⟩
  case round =>
    obtain ⟨p, f', rfl, H⟩ := hrel
    have hb := se_some H.out
    have hp : p < n := by omega
    have hc := ht p hp
    by_cases c1 : g p = 34
    · have he : Hid (e = p + 1) := se_hit H.out c1
      go_wp2
      go_ret
      exact ⟨by rw [he.out]; rfl, rfl⟩
    · by_cases c2 : g p = 92
      · obtain ⟨f2, h2⟩ := se_esc H.out c1 c2
        have H2 : Hid (se g n f2 (p + 2) = some e) := h2
        clear h2
        go_wp2
        go_round
        case rel => exact ⟨p + 2, f2, by go_num, H2⟩
        case measure => simp [intOf]; omega
      · obtain ⟨f2, h2⟩ := se_plain H.out c1 c2
        have H2 : Hid (se g n f2 (p + 1) = some e) := h2
        clear h2
        go_wp2
        go_round
        case rel => exact ⟨p + 1, f2, by go_num, H2⟩
        case measure => simp [intOf]; omega

theorem zzStringEnd_any (b off n cap i e f : Nat) (g : Nat → Int) (w : World) (hn : n ≤ 1099511627776) (ht : Txt w b off n g) (hs : se g n f (i + 1) = some e) :
    Calls Try.prog 28 #[.slice (some ⟨b, off, none⟩) n cap, .int .i64 i] w fun r w' => r = .returned (.int .i64 e) ∧ w' = w := by
  go_enter Try.func28, Try.ntmps28
  go_wp2_with (go_at_call 32; refine (stringEnd_any b off n cap i e f g _ hn ht hs).mono ?_; rintro r w' ⟨rfl, rfl⟩)
  go_ret
  exact ⟨rfl, rfl⟩

theorem Try.info5 : (Try.prog.info? 5).map (fun i => (i.zero, i.size, i.bytes)) = some (some (.int .u8 0), 1, 1) := by kernel_rfl


/-- A row of the call's own, its first k cells as g says. -/
theorem clone_step {w wr : World} {n k : Nat} {xs : List Value} {g : Nat → Int} (hk : k < n) (hown : wr.ownsRow w.heap.size 5 1 (.slice (some ⟨w.heap.size, 0, none⟩) n n) n xs)
    (hx : ∀ j, j < k → xs[j]? = some (.int .u8 (g j))) (hb : Below w.heap.size w wr) (hs : w.heap.size < wr.heap.size) :
    ∃ ys, (wr.setCell ⟨w.heap.size, k, none⟩ (.int .u8 (g k))).ownsRow w.heap.size 5 1 (.slice (some ⟨w.heap.size, 0, none⟩) n n) n ys ∧ (∀ j, j < k + 1 → ys[j]? = some (.int .u8 (g j))) ∧
      Below w.heap.size w (wr.setCell ⟨w.heap.size, k, none⟩ (.int .u8 (g k))) ∧ w.heap.size < (wr.setCell ⟨w.heap.size, k, none⟩ (.int .u8 (g k))).heap.size := by
  refine ⟨_, (hown.stored k (.int .u8 (g k))).1, ?_, hb.setCell (Nat.le_refl _) _, by simpa [World.setCell] using hs⟩
  have hl := hown.1
  intro j hj
  rw [List.getElem?_set]
  by_cases e : k = j
  · subst e; rw [if_pos rfl, if_pos (by omega)]
  · rw [if_neg e]; exact hx j (by omega)

set_option maxHeartbeats 400000 in
theorem cloneBytes_any (b off n cap : Nat) (g : Nat → Int) (w : World) (hn : n ≤ 1048576) (ht : Txt w b off n g) :
    Calls Try.prog 19 #[.slice (some ⟨b, off, none⟩) n cap] w fun r w' => r = .returned (.slice (some ⟨w.heap.size, 0, none⟩) n n) ∧ Txt w' w.heap.size 0 n g ∧ Below w.heap.size w w' ∧ w.heap.size < w'.heap.size := by
  have q31 := fun (w : World) (a : Option Addr) (n c : Nat) => Lib.run_eql_slice_nil (P := Try.prog) w 31 5 a n c 0 0 Try.underlying31
  obtain ⟨i0, hi, hz0, hz1, hz2⟩ := info_parts Try.info5
  go_enter Try.func19, Try.ntmps19
  go_wp2_with (at_make; refine wpList_make_full _ rfl _ _ 31 rfl w.heap.size 5 i0 (.int .u8 0) 1 Try.underlying31 hi hz0 hz1 _ _ _ _ n rfl rfl rfl rfl ?b2 ?b3 (Nat.le_refl _) ?_)
  case b2 => rw [hz2]; omega
  case b3 => unfold maxLen; omega
  intro w0 hown0 hgrow0
  have hs0 : w.heap.size < w0.heap.size := by
    rcases hown0.2 with ⟨h, _⟩ | ⟨g', c', cur, h, _, hg, _⟩
    · simp at h
    · simp at h
      obtain ⟨rfl, rfl⟩ := h
      exact (Array.getElem?_eq_some_iff.mp hg).1
  have hb0 : Below w.heap.size w w0 := (Below.refl _ _).grown hgrow0 (Nat.le_refl _) (fun k h => by cases h)
  go_wp2
  go_loopw [4] (fun s wr => ∃ (k : Nat) (xs : List Value), k ≤ n ∧ s = .int .i64 k ∧ wr.ownsRow w.heap.size 5 1 (.slice (some ⟨w.heap.size, 0, none⟩) n n) n xs ∧ (∀ j, j < k → xs[j]? = some (.int .u8 (g j))) ∧ Below w.heap.size w wr ∧ w.heap.size < wr.heap.size)
    (fun s _ => n - (intOf s).toNat)
  case atStart => exact ⟨0, _, Nat.zero_le _, rfl, hown0, fun j h => by omega, hb0, hs0⟩
  case round =>
    obtain ⟨k, xs, hk, rfl, hown, hx, hb, hs⟩ := hrel
    by_cases hlt : k < n
    · have hc : wr.cell? ⟨b, off + k, none⟩ = some (.int .u8 (g k)) := cell_later hb (ht k hlt)
      have hfz : wr.frozen? ⟨w.heap.size, k, none⟩ = false := hown.frozenAt k
      have hl := hown.1
      obtain ⟨v, hv⟩ : ∃ v, wr.cell? ⟨w.heap.size, k, none⟩ = some v := ⟨xs[k]'(by omega), by rw [hown.cellAt k (by omega)]; simp⟩
      obtain ⟨ys, R1, R2, R3, R4⟩ := clone_step hlt hown hx hb hs
      clear hl
      go_wp2
      go_roundw
      case rel => exact ⟨k + 1, ys, by omega, by go_num, R1, R2, R3, R4⟩
      case measure => simp [intOf]; omega
    · have hkn : k = n := by omega
      subst hkn
      go_wp2
      go_ret
      refine ⟨rfl, fun j hj => ?_, hb, hs⟩
      rw [Nat.zero_add, hown.cellAt j (by omega)]
      exact hx j hj

theorem cloneBytes_nil (w : World) : Calls Try.prog 19 #[.slice none 0 0] w fun r w' => r = .returned (.slice none 0 0) ∧ w' = w := by
  have q31 := fun (w : World) (a : Option Addr) (n c : Nat) => Lib.run_eql_slice_nil (P := Try.prog) w 31 5 a n c 0 0 Try.underlying31
  go_enter Try.func19, Try.ntmps19
  go_wp2
  go_ret
  exact ⟨rfl, rfl⟩

/-- An empty slice that is not nil, whatever it leads to. -/
theorem cloneBytes_empty (x : Addr) (cap : Nat) (w : World) :
    Calls Try.prog 19 #[.slice (some x) 0 cap] w fun r w' => r = .returned (.slice (some ⟨w.heap.size, 0, none⟩) 0 0) ∧ Below w.heap.size w w' := by
  have q31 := fun (w : World) (a : Option Addr) (n c : Nat) => Lib.run_eql_slice_nil (P := Try.prog) w 31 5 a n c 0 0 Try.underlying31
  obtain ⟨i0, hi, hz0, hz1, hz2⟩ := info_parts Try.info5
  go_enter Try.func19, Try.ntmps19
  go_wp2_with (at_make; refine wpList_make_full _ rfl _ _ 31 rfl w.heap.size 5 i0 (.int .u8 0) 1 Try.underlying31 hi hz0 hz1 _ _ _ _ 0 rfl rfl rfl rfl ?b2 ?b3 (Nat.le_refl _) ?_)
  case b2 => rw [hz2]; omega
  case b3 => unfold maxLen; omega
  intro w0 hown0 hgrow0
  have hb0 : Below w.heap.size w w0 := (Below.refl _ _).grown hgrow0 (Nat.le_refl _) (fun k h => by cases h)
  go_wp2
  go_loopw [4] (fun s wr => s = .int .i64 0 ∧ Below w.heap.size w wr) (fun _ _ => 0)
  case atStart => exact ⟨rfl, hb0⟩
  case round =>
    obtain ⟨rfl, hb⟩ := hrel
    go_wp2
    go_ret
    exact ⟨rfl, hb⟩

/-- WHAT A SLICE OF BYTES IS TO A READER: it is empty, or its n bytes lie in a block, as g says. -/
def Row (w : World) (ao : Option Addr) (n : Nat) (g : Nat → Int) : Prop := n = 0 ∨ ∃ b off, ao = some ⟨b, off, none⟩ ∧ Txt w b off n g

theorem Txt.later {w wx : World} {b off n : Nat} {g : Nat → Int} (h : Txt w b off n g) (hb : Below w.heap.size w wx) : Txt wx b off n g := fun i hi => cell_later hb (h i hi)
theorem Row.later {w wx : World} {ao : Option Addr} {n : Nat} {g : Nat → Int} (h : Row w ao n g) (hb : Below w.heap.size w wx) : Row wx ao n g := by
  rcases h with h | ⟨b, off, e, h⟩
  · exact .inl h
  · exact .inr ⟨b, off, e, h.later hb⟩

/-- What the shell's row is to the walks. -/
theorem row_of {w : World} {a : Option Addr} {len cap : Nat} {zs : List Int}
    (h : (a = none ∧ len = 0 ∧ cap = 0 ∧ zs = []) ∨ ∃ x, a = some x ∧ len ≤ cap ∧ cap ≤ maxLen ∧ zs.length = cap ∧ (∀ i, i < zs.length → w.cell? (x.add i) = some (.int .u8 (zs.getD i 0))) ∧ ∀ n ∈ zs, (Lit.int .u8 n).wf = true) :
    len ≤ maxLen ∧ (a = none → len = 0 ∧ cap = 0) ∧ Row w a len (fun i => zs.getD i 0) := by
  rcases h with ⟨rfl, rfl, rfl, rfl⟩ | ⟨x, rfl, hl, hm, hz, hcell, hwz⟩
  · exact ⟨Nat.zero_le _, fun _ => ⟨rfl, rfl⟩, .inl rfl⟩
  · refine ⟨Nat.le_trans hl hm, (fun h => nomatch h), ?_⟩
    by_cases h0 : len = 0
    · exact .inl h0
    · obtain ⟨b, off, spot⟩ := x
      have hspot : spot = none := by simpa [Addr.add] using World.cell?_spot (hcell 0 (by omega))
      subst hspot
      refine .inr ⟨b, off, rfl, fun i hi => ?_⟩
      have h := hcell i (by omega)
      by_cases e : i = 0
      · subst e; simpa [Addr.add] using h
      · simpa [Addr.add, e] using h

theorem cloneBytes_row (ao : Option Addr) (n cap : Nat) (g : Nat → Int) (w : World) (hn : n ≤ 1048576) (hno : ao = none → n = 0 ∧ cap = 0) (hr : Row w ao n g) :
    Calls Try.prog 19 #[.slice ao n cap] w fun r w' => ∃ ao', r = .returned (.slice ao' n n) ∧ Row w' ao' n g ∧ Below w.heap.size w w' := by
  cases ao with
  | none =>
    obtain ⟨rfl, rfl⟩ := hno rfl
    refine (cloneBytes_nil w).mono ?_
    rintro r w' ⟨rfl, rfl⟩
    exact ⟨none, rfl, .inl rfl, Below.refl _ _⟩
  | some x =>
    by_cases h0 : n = 0
    · subst h0
      refine (cloneBytes_empty x cap w).mono ?_
      rintro r w' ⟨rfl, hb⟩
      exact ⟨_, rfl, .inl rfl, hb⟩
    · rcases hr with h | ⟨b, off, e, ht⟩
      · exact absurd h h0
      · cases e
        refine (cloneBytes_any b off n cap g w hn ht).mono ?_
        rintro r w' ⟨rfl, ht', hb, _⟩
        exact ⟨_, rfl, .inr ⟨_, _, rfl, ht'⟩, hb⟩

end Go.Proofs.Qxb6603378a
