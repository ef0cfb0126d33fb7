/-
  A list of names that came in, opened.
-/
import Derived.Test.Qxb6603484aRows
import Derived.Test.Qxb6603484aExpMain
import Derived.ProofKit
import Derived.OpenShut
import Derived.Deep.Fields
import Derived.Deep.Slices
namespace Go.Proofs.Qxb6603484a
open Go.ChangeShapes Go.WideShapes Go.ChangeAt Go.RowKit
set_option linter.unusedVariables false

/-- The fields of a struct of one-cell fields, each with its reading. -/
theorem fieldsE {H : Type} {enc : TypeId × Value → H} {P : Program} {w : World} {base fuel : Nat} {sp : Nat → Bool} {held : Bool} {t : TypeId} {fs : Array Field} {cs : Array Value} {x : DataW H × List MemPlace}
    (ht : P.underlying t = some (.struct fs)) (hone : Deep.oneCellFields P fs = true) (h : DataW.trod enc P w base sp held fuel t cs.toList = some x) :
    ∃ n, ∀ (i : Nat) (f : Field) (v : Value), fs[i]? = some f → cs[i]? = some v → ∃ y, DataW.trod enc P w base sp held n f.type [v] = some y := by
  obtain ⟨xs, n, _, _, hl, hlen, hf⟩ := DataW.trod_struct ht h
  refine ⟨n, fun i f v hi hv => ?_⟩
  obtain ⟨o, k⟩ := Deep.hone_of hone i f hi
  have h1 := hf i f hi
  have hlt : i < fs.size := (Array.getElem?_eq_some_iff.1 hi).1
  have hx : xs[i]? = some (xs[i]'(by omega)) := by simp [hlen, hlt]
  rw [o, k, hx] at h1
  have hc : (cs.toList.drop i).take 1 = [v] := by
    have : cs.toList[i]? = some v := by simpa using hv
    have hlt2 : i < cs.toList.length := (List.getElem?_eq_some_iff.1 this).1
    rw [List.drop_eq_getElem_cons hlt2]
    simp only [List.take_succ_cons, List.take_zero]
    rw [(List.getElem?_eq_some_iff.1 this).2]
  rw [hc] at h1
  exact ⟨_, h1⟩

instance : Inhabited WD := ⟨⟨0, 0, 0, 0⟩⟩

set_option maxRecDepth 100000 in
theorem open47 {H : Type} {enc : TypeId × Value → H} {W : World} {r : Go.Reach} {b0 : Nat} {v : Value} {d : DataW H} {ps : List MemPlace} (hv : Value.okWide Try.prog W r b0 47 v) (h : DataW.Trod enc Try.prog W 0 (fun _ => true) true 47 v d ps) :
    ∃ (p : Option Addr) (n cap : Nat) (F : Nat → WD), v = .slice p n cap ∧ n ≤ maxLen ∧ (p = none → n = 0 ∧ cap = 0) ∧ WRow W p n F ∧ Tms n F := by
  obtain ⟨p, n, cap, rfl⟩ := okWide_slice Try.underlying47 hv
  obtain ⟨fuel, hf⟩ := h
  have c4 : Try.prog.cellsOf 69 = 4 := by kernel_rfl
  rcases Deep.open_slice Try.underlying47 hf with ⟨hcs, _⟩ | ⟨x, l, c, m, n', D, Pl, hcs, _, hl, hm, hmm, _, hel⟩
  · simp [Value.cells] at hcs
    obtain ⟨rfl, rfl, rfl⟩ := hcs
    exact ⟨none, 0, 0, fun _ => default, rfl, Nat.zero_le _, fun _ => ⟨rfl, rfl⟩, .inl rfl, fun j hj => by omega⟩
  · simp [Value.cells] at hcs
    obtain ⟨rfl, rfl, rfl⟩ := hcs
    have hnm : n ≤ m := by rw [hmm]; split <;> omega
    obtain ⟨F, hF⟩ := Deep.choose_lt (n := n) (p := fun j (y : WD) => (W.cell? (x.add (j * 4)) = some (.int .i64 y.t) ∧ W.cell? (x.add (j * 4 + 1)) = some (.int .u16 y.cic) ∧ W.cell? (x.add (j * 4 + 2)) = some (.int .u32 y.lo) ∧ W.cell? (x.add (j * 4 + 3)) = some (.int .u32 y.hi)) ∧
        -9223372036854775808 ≤ y.t ∧ y.t ≤ 9223372036854775807) (fun j hj => by
      obtain ⟨cs', h1, h2⟩ := hel j (by omega)
      rw [c4] at h1
      obtain ⟨_, hlen, hcell⟩ := World.cells?_some h1
      obtain ⟨nn, hn⟩ := fieldsE Try.underlying69 (by kernel_rfl) (cs := cs'.toArray) (by simpa using h2)
      match cs', hlen with
      | [a0, a1, a2, a3], _ =>
        obtain ⟨y0, g0⟩ := hn 0 _ a0 rfl rfl
        obtain ⟨y1, g1⟩ := hn 1 _ a1 rfl rfl
        obtain ⟨y2, g2⟩ := hn 2 _ a2 rfl rfl
        obtain ⟨y3, g3⟩ := hn 3 _ a3 rfl rfl
        clear hn
        obtain ⟨x0, e0, _, w0⟩ := DataW.trod_int Try.underlying2 g0
        obtain ⟨x1, e1, _, w1⟩ := DataW.trod_int Try.underlying23 g1
        obtain ⟨x2, e2, _, w2⟩ := DataW.trod_int Try.underlying22 g2
        obtain ⟨x3, e3, _, w3⟩ := DataW.trod_int Try.underlying22 g3
        simp only [List.cons.injEq, and_true] at e0 e1 e2 e3
        subst e0 e1 e2 e3
        have q0 := hcell 0 (by omega)
        have q1 := hcell 1 (by omega)
        have q2 := hcell 2 (by omega)
        have q3 := hcell 3 (by omega)
        rw [Deep.add_add] at q0 q1 q2 q3
        exact ⟨⟨x0, x1, x2, x3⟩, ⟨by simpa using q0, by simpa using q1, by simpa using q2, by simpa using q3⟩, (bounds_i64 w0).1, (bounds_i64 w0).2⟩)
    refine ⟨some x, n, cap, F, rfl, Nat.le_trans hl hm, (fun h => nomatch h), ?_, fun j hj => (hF j hj).2⟩
    by_cases h0 : n = 0
    · exact .inl h0
    · obtain ⟨b, off, spot⟩ := x
      have hspot : spot = none := by simpa [Addr.add] using World.cell?_spot (hF 0 (by omega)).1.1
      subst hspot
      have hadd : ∀ j, (⟨b, off, none⟩ : Addr).add j = ⟨b, off + j, none⟩ := fun j => by
        unfold Addr.add
        split <;> simp_all
      refine .inr ⟨b, off, rfl, fun i hi => ?_⟩
      have h := (hF i hi).1
      simp only [hadd] at h
      exact h

end Go.Proofs.Qxb6603484a
