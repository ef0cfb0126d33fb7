/-
  A Rec and a Msg that came in, opened.
-/
import Derived.Test.Qxb6603484aRows
import Derived.Test.Qxb6603484aRelMain
import Derived.ProofKit
import Derived.OpenShut
import Derived.Deep.Fields
namespace Go.Proofs.Qxb6603484a
open Go.ChangeShapes Go.WideShapes Go.ChangeAt Go.RowKit
set_option linter.unusedVariables false

/-- The fields of a struct of one-cell fields, each with its reading. -/
theorem fields_of {H : Type} {enc : TypeId × Value → H} {P : Program} {w : World} {base fuel : Nat} {sp : Nat → Bool} {held : Bool} {t : TypeId} {fs : Array Field} {cs : Array Value} {x : DataW H × List MemPlace}
    (ht : P.underlying t = some (.struct fs)) (hone : Deep.oneCellFields P fs = true) (h : DataW.trod enc P w base sp held fuel t cs.toList = some x) :
    ∃ n, ∀ (i : Nat) (f : Field) (v : Value), fs[i]? = some f → cs[i]? = some v → ∃ y, DataW.trod enc P w base sp held n f.type [v] = some y := by
  obtain ⟨xs, n, _, _, hl, hlen, hf⟩ := DataW.trod_struct ht h
  refine ⟨n, fun i f v hi hv => ?_⟩
  obtain ⟨o, k⟩ := Deep.hone_of hone i f hi
  have h1 := hf i f hi
  have hlt : i < fs.size := (Array.getElem?_eq_some_iff.1 hi).1
  have hx : xs[i]? = some (xs[i]'(by omega)) := by simp [hlen, hlt]
  rw [o, k, hx] at h1
  have hc : (cs.toList.drop i).take 1 = [v] := by
    have : cs.toList[i]? = some v := by simpa using hv
    have hlt2 : i < cs.toList.length := (List.getElem?_eq_some_iff.1 this).1
    rw [List.drop_eq_getElem_cons hlt2]
    simp only [List.take_succ_cons, List.take_zero]
    rw [(List.getElem?_eq_some_iff.1 this).2]
  rw [hc] at h1
  exact ⟨_, h1⟩

set_option maxRecDepth 100000 in
theorem open26 {H : Type} {enc : TypeId × Value → H} {W : World} {r : Reach} {b0 : Nat} {v : Value} {d : DataW H} {p : List MemPlace} (hv : Value.okWide Try.prog W r b0 26 v) (h : DataW.Trod enc Try.prog W 0 (fun _ => true) true 26 v d p) :
    ∃ (c : RecD) (s : Nat → ByteArray), v = .agg c.cells ∧ c.Ok ∧ c.ln ≤ maxLen ∧ c.calling.size ≤ maxLen ∧ c.called.size ≤ maxLen ∧ c.party.size ≤ maxLen ∧ (c.la = none → c.ln = 0 ∧ c.lc = 0) ∧ SRow W c.la c.ln s := by
  obtain ⟨cs, rfl, hsz⟩ := okWide_struct Try.underlying26 hv
  have hsz' : cs.size = 14 := hsz.trans (by kernel_rfl)
  obtain ⟨fuel, hf⟩ := h
  obtain ⟨n, hn⟩ := fields_of Try.underlying26 (by kernel_rfl) (cs := cs) (by simpa [Value.cells] using hf)
  obtain ⟨l⟩ := cs
  simp at hsz'
  match l, hsz' with
  | [a0, a1, a2, a3, a4, a5, a6, a7, a8, a9, a10, a11, a12, a13], _ =>
    obtain ⟨y0, h0⟩ := hn 0 _ a0 rfl rfl
    obtain ⟨y1, h1⟩ := hn 1 _ a1 rfl rfl
    obtain ⟨y2, h2⟩ := hn 2 _ a2 rfl rfl
    obtain ⟨y3, h3⟩ := hn 3 _ a3 rfl rfl
    obtain ⟨y4, h4⟩ := hn 4 _ a4 rfl rfl
    obtain ⟨y5, h5⟩ := hn 5 _ a5 rfl rfl
    obtain ⟨y6, h6⟩ := hn 6 _ a6 rfl rfl
    obtain ⟨y7, h7⟩ := hn 7 _ a7 rfl rfl
    obtain ⟨y8, h8⟩ := hn 8 _ a8 rfl rfl
    obtain ⟨y9, h9⟩ := hn 9 _ a9 rfl rfl
    obtain ⟨y10, h10⟩ := hn 10 _ a10 rfl rfl
    obtain ⟨y11, h11⟩ := hn 11 _ a11 rfl rfl
    obtain ⟨y12, h12⟩ := hn 12 _ a12 rfl rfl
    obtain ⟨y13, h13⟩ := hn 13 _ a13 rfl rfl
    clear hn
    obtain ⟨x0, e0, _, w0⟩ := DataW.trod_int Try.underlying2 h0
    obtain ⟨x1, e1, _, w1⟩ := DataW.trod_int Try.underlying22 h1
    obtain ⟨x2, e2, _, w2⟩ := DataW.trod_int Try.underlying22 h2
    obtain ⟨x3, e3, _, w3⟩ := DataW.trod_int Try.underlying23 h3
    obtain ⟨x4, e4, _, w4⟩ := DataW.trod_string Try.underlying9 h4
    obtain ⟨x5, e5, _, w5⟩ := DataW.trod_string Try.underlying9 h5
    obtain ⟨x6, e6, _, w6⟩ := DataW.trod_int Try.underlying2 h6
    obtain ⟨x7, e7, _, w7⟩ := DataW.trod_int Try.underlying2 h7
    obtain ⟨x8, e8, _, w8⟩ := DataW.trod_string Try.underlying9 h8
    obtain ⟨x9, e9, _, w9⟩ := DataW.trod_int Try.underlying5 h9
    obtain ⟨x10, e10, _⟩ := DataW.trod_bool Try.underlying4 h10
    obtain ⟨x11, e11, _⟩ := DataW.trod_bool Try.underlying4 h11
    obtain ⟨x12, e12, _, w12⟩ := DataW.trod_int Try.underlying3 h12
    simp only [List.cons.injEq, and_true] at e0 e1 e2 e3 e4 e5 e6 e7 e8 e9 e10 e11 e12
    subst e0 e1 e2 e3 e4 e5 e6 e7 e8 e9 e10 e11 e12
    have ok : ∀ (la : Option Addr) (ln lc : Nat), RecD.Ok ⟨x0, x1, x2, x3, x4, x5, x6, x7, x8, x9, x10, x11, x12, la, ln, lc⟩ := fun _ _ _ => ⟨(bounds_i64 w0).1, (bounds_i64 w0).2, (bounds_i64 w6).1, (bounds_i64 w6).2, (bounds_i64 w7).1, (bounds_i64 w7).2⟩
    rcases open_strings Try.underlying24 Try.underlying9 (by kernel_rfl) h13 with ⟨hcs, _⟩ | ⟨x, l, c, ss, hcs, _, hl, hm, hz, _, hcell, hwz⟩
    · simp only [List.cons.injEq, and_true] at hcs
      subst hcs
      exact ⟨⟨x0, x1, x2, x3, x4, x5, x6, x7, x8, x9, x10, x11, x12, none, 0, 0⟩, fun _ => ByteArray.empty, rfl, ok _ _ _, Nat.zero_le _, w4, w5, w8, fun _ => ⟨rfl, rfl⟩, .inl rfl⟩
    · simp only [List.cons.injEq, and_true] at hcs
      subst hcs
      refine ⟨⟨x0, x1, x2, x3, x4, x5, x6, x7, x8, x9, x10, x11, x12, some x, l, c⟩, fun i => ss.getD i ByteArray.empty, rfl, ok _ _ _, Nat.le_trans hl hm, w4, w5, w8, (fun h => nomatch h), ?_⟩
      by_cases h0 : l = 0
      · exact .inl h0
      · have hz' : ss.length = c := by simpa using hz
        obtain ⟨b, off, spot⟩ := x
        have hspot : spot = none := by simpa [Addr.add] using World.cell?_spot (hcell 0 (by omega))
        subst hspot
        refine .inr ⟨b, off, rfl, fun i hi => ?_⟩
        have hi2 : i < l := hi
        have h := hcell i (by omega)
        by_cases e : i = 0
        · subst e; simpa [Addr.add] using h
        · simpa [Addr.add, e] using h

set_option maxRecDepth 100000 in
theorem open28 {H : Type} {enc : TypeId × Value → H} {W : World} {r : Reach} {b0 : Nat} {v : Value} {d : DataW H} {p : List MemPlace} (hv : Value.okWide Try.prog W r b0 28 v) (h : DataW.Trod enc Try.prog W 0 (fun _ => true) true 28 v d p) :
    ∃ (m : MsgD), v = .agg m.cells ∧ -9223372036854775808 ≤ m.tm ∧ m.tm ≤ 9223372036854775807 ∧ m.link.size ≤ maxLen ∧ m.calling.size ≤ maxLen ∧ m.called.size ≤ maxLen := by
  obtain ⟨cs, rfl, hsz⟩ := okWide_struct Try.underlying28 hv
  have hsz' : cs.size = 10 := hsz.trans (by kernel_rfl)
  obtain ⟨fuel, hf⟩ := h
  obtain ⟨n, hn⟩ := fields_of Try.underlying28 (by kernel_rfl) (cs := cs) (by simpa [Value.cells] using hf)
  obtain ⟨l⟩ := cs
  simp at hsz'
  match l, hsz' with
  | [a0, a1, a2, a3, a4, a5, a6, a7, a8, a9], _ =>
    obtain ⟨y0, h0⟩ := hn 0 _ a0 rfl rfl
    obtain ⟨y1, h1⟩ := hn 1 _ a1 rfl rfl
    obtain ⟨y2, h2⟩ := hn 2 _ a2 rfl rfl
    obtain ⟨y3, h3⟩ := hn 3 _ a3 rfl rfl
    obtain ⟨y4, h4⟩ := hn 4 _ a4 rfl rfl
    obtain ⟨y5, h5⟩ := hn 5 _ a5 rfl rfl
    obtain ⟨y6, h6⟩ := hn 6 _ a6 rfl rfl
    obtain ⟨y7, h7⟩ := hn 7 _ a7 rfl rfl
    obtain ⟨y8, h8⟩ := hn 8 _ a8 rfl rfl
    obtain ⟨y9, h9⟩ := hn 9 _ a9 rfl rfl
    clear hn
    obtain ⟨x0, e0, _, w0⟩ := DataW.trod_int Try.underlying2 h0
    obtain ⟨x1, e1, _, w1⟩ := DataW.trod_string Try.underlying9 h1
    obtain ⟨x2, e2, _, w2⟩ := DataW.trod_int Try.underlying22 h2
    obtain ⟨x3, e3, _, w3⟩ := DataW.trod_int Try.underlying22 h3
    obtain ⟨x4, e4, _, w4⟩ := DataW.trod_int Try.underlying23 h4
    obtain ⟨x5, e5, _, w5⟩ := DataW.trod_int Try.underlying5 h5
    obtain ⟨x6, e6, _, w6⟩ := DataW.trod_string Try.underlying9 h6
    obtain ⟨x7, e7, _, w7⟩ := DataW.trod_string Try.underlying9 h7
    obtain ⟨x8, e8, _, w8⟩ := DataW.trod_int Try.underlying5 h8
    obtain ⟨x9, e9, _⟩ := DataW.trod_bool Try.underlying4 h9
    simp only [List.cons.injEq, and_true] at e0 e1 e2 e3 e4 e5 e6 e7 e8 e9
    subst e0 e1 e2 e3 e4 e5 e6 e7 e8 e9
    exact ⟨⟨x0, x1, x2, x3, x4, x5, x6, x7, x8, x9⟩, rfl, (bounds_i64 w0).1, (bounds_i64 w0).2, w1, w6, w7⟩

end Go.Proofs.Qxb6603484a
