/-
  THE WALK of ZZpushWaiter.
-/
import Derived.Test.Qxb6603484aAsm2
namespace Go.Proofs.Qxb6603484a
open Go.RowKit
set_option linter.unusedVariables false

set_option maxHeartbeats 800000 in
theorem push_any (base b m : Nat) (v : Value) (n : Nat) (xs : List Value) (k lat : Int) (d : WD) (w : World) (h : Blk w b (aCells m v k lat) 85) (hown : w.ownsRow base 90 6 v n xs) (hn : n ≤ 32768) (hbase : base ≤ w.heap.size)
    (ht1 : -9223372036854775808 ≤ d.t) (ht2 : d.t ≤ 9223372036854775807) :
    Calls Try.prog 30 #[.pointer (some ⟨b, 0, none⟩), .int .i64 d.t, .int .u16 d.cic, .int .u32 d.lo, .int .u32 d.hi] w fun r w' => r = .returned (.tuple #[]) ∧ ∃ g cap, Blk w' b (aCells m (.slice (some ⟨g, 0, none⟩) (n + 1) cap) k lat) 85 ∧
      w'.ownsRow base 90 6 (.slice (some ⟨g, 0, none⟩) (n + 1) cap) (n + 1) (xs ++ d.cells) ∧ Apart (fun k => k = b ∨ v.ownBlock = some k) w w' ∧ (v.ownBlock = some g ∨ w.heap.size ≤ g) := by
  obtain ⟨i0, hi, hz0, hz1, hz2⟩ := info_parts Try.info90
  have hz := zzat_any d.t
  have c := h.cell
  have c2 := aC2 m v k lat
  go_enter Try.func30, Try.ntmps30
  go_wp2_with fail
  have ho1 : ∀ w1, Below w.drew.heap.size w.drew w1 → w1.ownsRow base 90 6 v n xs := fun w1 hb => hown.kept (row := none) ⟨hb.os, hb.tape, hb.output, hb.size, fun k hk _ => hb.block k hk⟩ (by cases v.ownBlock <;> simp)
  go_region_law (first
    | (show if Region.wanted { dst := some 23, op := _, type := _, pos := _, after := _, guard := _ } _ = true then _ else _; refine step_append_lies _ rfl (.tmp 14) (.tmp 22) 81 rfl base 90 i0 _ 6 40 Try.underlying81 hi hz0 hz1 hz2 rfl (by decide) v n xs rfl ((ho1 _ hb).alloc _) _ 1 1 d.cells rfl rfl (World.news_of_block (heap_alloc_new _ _)) (by simp [WD.cells, Value.oneCell']) (by decide) (by unfold maxLen; omega) (by omega) (by have := hb.size; simp at this ⊢; omega) _ rfl ?_; intro g cap w2 hown2 hgrow hat hlt;
       have hB2 := push_blk h hown hb _ hgrow; have c2' := hB2.cell; have f2' := hB2.frozen; have HH : Hid (_ ∧ _ ∧ _ ∧ _) := ⟨hown2, hgrow, hat, hB2⟩; clear hown2 hgrow hat hB2 hlt)
    | (go_simp; go_at_call 26; refine (hz _ ht1 ht2).mono ?_; rintro r w1 ⟨rfl, hb⟩; have c' := (h.drew.later hb).cell; have c'' := fun o => ((h.drew.later hb).alloc o).cell; unfold tT tv))
  all_goals
    obtain ⟨hown2, hgrow, hat, hB2⟩ := HH.out
    go_wp2_with fail
    go_end0
    refine ⟨rfl, g, cap, ?_⟩
    exact push_end h hown hb _ hgrow hB2 hown2 hat

end Go.Proofs.Qxb6603484a
