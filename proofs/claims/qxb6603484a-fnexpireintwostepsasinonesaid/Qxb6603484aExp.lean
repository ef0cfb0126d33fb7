/-
  THE WALK of expire.
-/
import Derived.Test.Qxb6603484aCopy
import Derived.Deep.CutBlock
import Derived.Deep.CutRange
namespace Go.Proofs.Qxb6603484a
open Go.RowKit
set_option linter.unusedVariables false

/-- Nothing lies in an empty map. -/
theorem lookup80 (m : Nat) (a b c : Int) (W : World) (hm : W.heap[m]? = some (.map #[] 0)) :
    (Instr.lookup 80 (.map (some m)) (.agg #[.int .u16 a, .int .u32 b, .int .u32 c]) false).run Try.prog W = .ok (.pointer none) W := by
  have h1 : ∀ W, (Instr.checkKey true 10000 60 (.agg #[.int .u16 a, .int .u32 b, .int .u32 c])).run Try.prog W = .ok () W := fun W => by kernel_rfl
  have h2 : ∀ W, (Instr.findKey 60 (.agg #[.int .u16 a, .int .u32 b, .int .u32 c]) []).run Try.prog W = .ok none W := fun W => by kernel_rfl
  have h3 : ∀ W, (zeroValue 92).run Try.prog W = .ok (.pointer none) W := fun W => by kernel_rfl
  simp [Instr.lookup, run_underlying Try.underlying80, run_getObj_map W m #[] 0 hm, h1, h2, h3]
attribute [local go_sem] lookup80

theorem keepX {w : World} {b g o : Nat} {C : Array Value} {v0 v1 v2 : Value} {W w1 : World}
    (h : (∀ j, W.cell? ⟨b, j, none⟩ = C[j]?) ∧ W.cell? ⟨g, o, none⟩ = some v0 ∧ W.cell? ⟨g, o + 1, none⟩ = some v1 ∧ W.cell? ⟨g, o + 2, none⟩ = some v2 ∧ Blk W b C 85 ∧ g < w.heap.size ∧ Below w.heap.size w W)
    (hb : Below W.heap.size W w1) :
    (∀ j, w1.cell? ⟨b, j, none⟩ = C[j]?) ∧ w1.cell? ⟨g, o, none⟩ = some v0 ∧ w1.cell? ⟨g, o + 1, none⟩ = some v1 ∧ w1.cell? ⟨g, o + 2, none⟩ = some v2 ∧ Blk w1 b C 85 ∧ g < w.heap.size ∧ Below w.heap.size w w1 := by
  obtain ⟨h1, h2, h3, h4, h5, h6, h7⟩ := h
  exact ⟨(h5.later hb).cell, cellL hb h2, cellL hb h3, cellL hb h4, h5.later hb, h6, h7.trans (hb.mono h7.size)⟩

/-- From k on the cells xs hold the names F. -/
def NamesF (xs : List Value) (k n : Nat) (F : Nat → WD) : Prop := ∀ i, k ≤ i → i < n → ∀ q, q < 6 → xs[i * 6 + q]? = (F i).cells[q]?
theorem own_cell {w : World} {base g n cap : Nat} {xs : List Value} (h : w.ownsRow base 90 6 (.slice (some ⟨g, 0, none⟩) n cap) n xs) {j : Nat} {u : Value} (hu : xs[j]? = some u) : w.cell? ⟨g, j, none⟩ = some u := by
  have := h.cells (g := g) rfl j u hu
  have hadd : (⟨g, 0, none⟩ : Addr).add j = ⟨g, j, none⟩ := by unfold Addr.add; split <;> simp_all
  rwa [hadd] at this
theorem own_name {w : World} {base g n cap k i : Nat} {xs : List Value} {F : Nat → WD} (h : w.ownsRow base 90 6 (.slice (some ⟨g, 0, none⟩) n cap) n xs) (hF : NamesF xs k n F) (hk : k ≤ i) (hi : i < n) :
    w.cell? ⟨g, i * 6, none⟩ = some (.int .u64 ((F i).t % 1000000000)) ∧ w.cell? ⟨g, i * 6 + 1, none⟩ = some (.int .i64 ((F i).t / 1000000000)) ∧ w.cell? ⟨g, i * 6 + 2, none⟩ = some (.pointer none) ∧
    w.cell? ⟨g, i * 6 + 3, none⟩ = some (.int .u16 (F i).cic) ∧ w.cell? ⟨g, i * 6 + 4, none⟩ = some (.int .u32 (F i).lo) ∧ w.cell? ⟨g, i * 6 + 5, none⟩ = some (.int .u32 (F i).hi) :=
  ⟨own_cell h (hF i hk hi 0 (by omega)), own_cell h (hF i hk hi 1 (by omega)), own_cell h (hF i hk hi 2 (by omega)), own_cell h (hF i hk hi 3 (by omega)), own_cell h (hF i hk hi 4 (by omega)), own_cell h (hF i hk hi 5 (by omega))⟩

theorem later_map {w w1 : World} {m : Nat} (hb : Below w.heap.size w w1) (h : w.heap[m]? = some (.map #[] 0)) : w1.heap[m]? = some (.map #[] 0) := (hb.block m (Array.getElem?_eq_some_iff.mp h).1).trans h
theorem cellA {w : World} {a : Addr} {v : Value} (o : Obj) (h : w.cell? a = some v) : (w.alloc o).cell? a = some v := cellL ((Below.refl _ w).alloc (Nat.le_refl _) o) h

/-- The state with the name's circuit in a block of its own. -/
def With (w : World) (base b m e : Nat) (v : Value) (n : Nat) (k : Int) (xs : List Value) (lat : Int) (d : WD) (a : World) : Prop :=
  Blk w b (aCells m v k lat) 85 ∧ w.cell? ⟨e, 0, none⟩ = some (.int .u16 d.cic) ∧ w.cell? ⟨e, 1, none⟩ = some (.int .u32 d.lo) ∧ w.cell? ⟨e, 2, none⟩ = some (.int .u32 d.hi) ∧ w.heap[m]? = some (.map #[] 0) ∧ w.ownsRow base 90 6 v n xs ∧
    Apart (fun q => q = b ∨ v.ownBlock = some q) a w
theorem with_new {w1 a : World} {base b m n : Nat} {v : Value} {k : Int} {xs : List Value} {lat : Int} (d : WD) (hB : Blk w1 b (aCells m v k lat) 85) (hO : w1.ownsRow base 90 6 v n xs) (hM : w1.heap[m]? = some (.map #[] 0)) (hA : Apart (fun q => q = b ∨ v.ownBlock = some q) a w1) :
    With (w1.alloc (.cells #[.int .u16 d.cic, .int .u32 d.lo, .int .u32 d.hi] 60)).drew base b m w1.heap.size v n k xs lat d a := by
  have hb : Below w1.heap.size w1 (w1.alloc (.cells #[.int .u16 d.cic, .int .u32 d.lo, .int .u32 d.hi] 60)).drew := ((Below.refl _ w1).alloc (Nat.le_refl _) _).drew
  exact ⟨hB.later hb, by simp [go_sem], by simp [go_sem], by simp [go_sem], later_map hb hM, own_below hO hb, hA.trans (Apart.of_below hb)⟩
theorem map_setCell {w : World} {b m j : Nat} {C : Array Value} {u : Value} (hB : Blk w b C 85) (hM : w.heap[m]? = some (.map #[] 0)) : (w.setCell ⟨b, j, none⟩ u).heap[m]? = some (.map #[] 0) :=
  (Below.heap_setCell w ⟨b, j, none⟩ u m (fun e => by have : m = b := e; subst this; have := hB.symm.trans hM; simp at this)).trans hM
theorem with_set {w a : World} {base b m e n : Nat} {v : Value} {k k' : Int} {xs : List Value} {lat : Int} {d : WD} (h : With w base b m e v n k xs lat d a) (hne : b ≠ e) : With (w.setCell ⟨b, 3, none⟩ (.int .i64 k')) base b m e v n k' xs lat d a := by
  obtain ⟨h1, h2, h3, h4, h5, h6, h7⟩ := h
  have hc : ∀ j, (w.setCell ⟨b, 3, none⟩ (.int .i64 k')).cell? ⟨e, j, none⟩ = w.cell? ⟨e, j, none⟩ := fun j => by
    have := Below.heap_setCell w ⟨b, 3, none⟩ (.int .i64 k') e (Ne.symm hne)
    simp only [World.cell?, this]
  refine ⟨h1.setCell 3 _, (hc 0).trans h2, (hc 1).trans h3, (hc 2).trans h4, map_setCell h1 h5, h6.kept (grown_setCell w b 3 _) (.inr (own_ne h6 h1)), h7.setCell b 3 _ (.inl rfl)⟩

/-- The state of the loop. -/
def Loop (w wr : World) (base b m : Nat) (p : Option Addr) (n cap : Nat) (xs : List Value) (lat : Int) (F : Nat → WD) (k0 k : Nat) : Prop :=
  k0 ≤ k ∧ k ≤ n ∧ Blk wr b (aCells m (.slice p n cap) k lat) 85 ∧ wr.heap[m]? = some (.map #[] 0) ∧ wr.ownsRow base 90 6 (.slice p n cap) n xs ∧ fl lat F n k = fl lat F n k0 ∧ Apart (fun q => q = b ∨ (Value.slice p n cap).ownBlock = some q) w wr

/-- The count that stands in the Assembler. -/
def waitedIn (w : World) (b : Nat) : Nat := match w.cell? ⟨b, 3, none⟩ with | some (.int _ k) => k.toNat | _ => 0
theorem waitedIn_eq {w : World} {b m : Nat} {v : Value} {k : Nat} {lat : Int} (h : Blk w b (aCells m v k lat) 85) : waitedIn w b = k := by
  unfold waitedIn
  rw [h.cell 3, aC3]
  simp

theorem with_loop {w y : World} {base b m e n cap k0 k g nq : Nat} {xs : List Value} {lat : Int} {F : Nat → WD} {d : WD} (l1 : k0 ≤ k) (hlt : k < n) (hB : Blk y b (aCells m (.slice (some ⟨g, 0, none⟩) n cap) ((k : Int) + 1) lat) 85) (hM : y.heap[m]? = some (.map #[] 0))
    (hO : y.ownsRow base 90 6 (.slice (some ⟨g, 0, none⟩) n cap) n xs) (hA : Apart (fun q => q = b ∨ (Value.slice (some ⟨g, 0, none⟩) n cap).ownBlock = some q) w y) (hE : fl lat F n (k + 1) = fl lat F n k0) :
    Loop w (y.drewN nq) base b m (some ⟨g, 0, none⟩) n cap xs lat F k0 (k + 1) :=
  ⟨by omega, by omega, hB, hM, hO, hE, ⟨hA.os, hA.tape, hA.output, hA.size, hA.block⟩⟩

theorem Apart.drewN {S : Nat → Prop} {a w : World} (h : Apart S a w) (n : Nat) : Apart S a (w.drewN n) := ⟨h.os, h.tape, h.output, h.size, h.block⟩
theorem own_row {w : World} {base n cap : Nat} {p : Option Addr} {xs : List Value} (h : w.ownsRow base 90 6 (.slice p n cap) n xs) (hn : 0 < n) : ∃ (g : Nat) (cur : Array Value), p = some ⟨g, 0, none⟩ ∧ w.heap[g]? = some (.cells cur 90 (0, 0)) ∧ n ≤ cap ∧ cur.size = cap * 6 ∧ cur.toList.take (n * 6) = xs := by
  rcases h.2 with ⟨_, h0⟩ | ⟨g, cap', cur, e, _, hg, h1, _, h3, h4⟩
  · omega
  · cases e
    exact ⟨g, cur, rfl, hg, h1, h3, h4⟩

/-- The row in block g is another one, all else is as it was. -/
structure Turned (w V : World) (g : Nat) (row : Array Value) (t : TypeId) : Prop where
  os : V.os = w.os
  tape : V.tape = w.tape
  output : V.output = w.output
  size : V.heap.size = w.heap.size
  own : V.heap[g]? = some (.cells row t (0, 0))
  other : ∀ k, k ≠ g → V.heap[k]? = w.heap[k]?

theorem step_copy_turned {P : Program} {ops : Array Oper} {o : Oper} {a : Act} {w : World} {K : Act → World → Prop} {Q : Exit → Act → World → Prop} {E : Prop} (hgd : o.guard = none) (d s : Operand) (dT sT : TypeId)
    (ho : o.op = .call { callee := .builtin .copy, args := #[d, s], argTypes := #[dT, sT] }) (elem : TypeId) (size : Nat) (hu : P.underlying dT = some (.slice elem)) (hsz : (P.info? elem).map (·.size) = some size)
    (g dLen dCap : Nat) (ad : Addr) (sLen sCap m : Nat) (hd : a.eval d = .slice (some ⟨g, 0, none⟩) dLen dCap) (hs : a.eval s = .slice (some ad) sLen sCap)
    (cur : Array Value) (t : TypeId) (hg : w.heap[g]? = some (.cells cur t (0, 0))) (cs : List Value) (hm : Nat.min sLen dLen = m) (hn : cs.length = m * size)
    (hsrc : ∀ j v, cs[j]? = some v → w.cell? (ad.add j) = some v) (hfit : cs.length ≤ cur.size) (h1 : ∀ v ∈ cs, v.oneCell' = true)
    (h : ∀ V, Turned w V g (cs ++ cur.toList.drop cs.length).toArray t → K (a.put o.dst (goInt m)) V) :
    if Region.wanted o (yielded ops a.tmps) = true then Oper.wp P o a w K Q else E := by
  refine step_copy_size hgd d s dT sT ho elem size hu hsz g 0 dLen dCap ad sLen sCap m hd hs cur t hg cs hm hn hsrc (by omega) h1 (h _ ?_)
  simp only [List.take_zero, List.nil_append, Nat.zero_add]
  exact ⟨rfl, rfl, rfl, by simp, setRow_heap w g cur _ t (0, 0) hg, fun k hk => setRow_other w g k _ hk⟩

theorem names_one {xs : List Value} {k n : Nat} {F : Nat → WD} (hl : xs.length = n * 6) (hF : NamesF xs k n F) : ∀ v ∈ xs.drop (k * 6), v.oneCell' = true := by
  intro v hv
  obtain ⟨j, hj⟩ := List.mem_iff_getElem?.mp hv
  rw [List.getElem?_drop] at hj
  have hlt : k * 6 + j < n * 6 := by
    have := (List.getElem?_eq_some_iff.mp hj).1
    omega
  have e : k * 6 + j = (k + j / 6) * 6 + j % 6 := by omega
  rw [e, hF (k + j / 6) (by omega) (by omega) (j % 6) (by omega)] at hj
  have hq : j % 6 < 6 := by omega
  revert hj
  generalize j % 6 = q at hq
  match q, hq with
  | 0, _ => intro h; cases h; rfl
  | 1, _ => intro h; cases h; rfl
  | 2, _ => intro h; cases h; rfl
  | 3, _ => intro h; cases h; rfl
  | 4, _ => intro h; cases h; rfl
  | 5, _ => intro h; cases h; rfl
theorem copy_src {w : World} {g k n cap : Nat} {cur : Array Value} {xs : List Value} {ad : Addr} (hg : w.heap[g]? = some (.cells cur 90 (0, 0))) (hl : xs.length = n * 6) (hct : cur.toList.take (n * 6) = xs) (had : k < n → ad = ⟨g, k * 6, none⟩) :
    ∀ j v, (xs.drop (k * 6))[j]? = some v → w.cell? (ad.add j) = some v := by
  intro j v hj
  rw [List.getElem?_drop] at hj
  have hlt : k * 6 + j < n * 6 := by
    have := (List.getElem?_eq_some_iff.mp hj).1
    omega
  have e := had (by omega)
  subst e
  have hadd : (⟨g, k * 6, none⟩ : Addr).add j = ⟨g, k * 6 + j, none⟩ := by unfold Addr.add; split <;> simp_all
  rw [hadd, cell_of_row w g (k * 6 + j) cur 90 (0, 0) hg, ← hj, ← hct, List.getElem?_take_of_lt hlt]
  simp
theorem turned_blk {w V : World} {base g b n cap : Nat} {row C : Array Value} {xs : List Value} (hV : Turned w V g row 90) (hO : w.ownsRow base 90 6 (.slice (some ⟨g, 0, none⟩) n cap) n xs) (hB : Blk w b C 85) : Blk V b C 85 :=
  (hV.other b (fun e => own_ne hO hB (by simp [Value.ownBlock, e]))).trans hB

/-- The state behind the loop. -/
def Stop (w wr : World) (base b m : Nat) (p : Option Addr) (n cap : Nat) (xs : List Value) (lat : Int) (F : Nat → WD) (k0 k : Nat) : Prop :=
  k0 ≤ k ∧ k ≤ n ∧ Blk wr b (aCells m (.slice p n cap) k lat) 85 ∧ wr.heap[m]? = some (.map #[] 0) ∧ wr.ownsRow base 90 6 (.slice p n cap) n xs ∧ k = fl lat F n k0 ∧ Apart (fun q => q = b ∨ (Value.slice p n cap).ownBlock = some q) w wr
/-- Where expire leaves the Assembler. -/
def Gone (w w' : World) (base b m : Nat) (p : Option Addr) (n cap : Nat) (lat : Int) (F : Nat → WD) (k1 : Nat) : Prop :=
  ∃ n' k' xs', k' ≤ n' ∧ n' - k' = n - k1 ∧ n' ≤ n ∧ (k' = 0 ∨ 2 * k' < n') ∧ Blk w' b (aCells m (.slice p n' cap) (k' : Nat) lat) 85 ∧ w'.heap[m]? = some (.map #[] 0) ∧ w'.ownsRow base 90 6 (.slice p n' cap) n' xs' ∧
    (∀ i, k1 + i < n → ∀ q, q < 6 → xs'[(k' + i) * 6 + q]? = (F (k1 + i)).cells[q]?) ∧ Apart (fun q => q = b ∨ (Value.slice p n cap).ownBlock = some q) w w'
theorem gone_stay {w wr : World} {base b m n cap k0 k nq : Nat} {p : Option Addr} {xs : List Value} {lat : Int} {F : Nat → WD} (l1 : k0 ≤ k) (l2 : k ≤ n) (hB : Blk wr b (aCells m (.slice p n cap) k lat) 85) (hM : wr.heap[m]? = some (.map #[] 0))
    (hO : wr.ownsRow base 90 6 (.slice p n cap) n xs) (hA : Apart (fun q => q = b ∨ (Value.slice p n cap).ownBlock = some q) w wr) (hF : NamesF xs k0 n F) (hs : k = 0 ∨ 2 * k < n) (hE : k = fl lat F n k0) : Gone w (wr.drewN nq) base b m p n cap lat F (fl lat F n k0) := by
  rw [← hE]
  exact ⟨n, k, xs, l2, rfl, Nat.le_refl _, hs, hB, hM, hO, fun i hi q hq => hF (k + i) (by omega) hi q hq, ⟨hA.os, hA.tape, hA.output, hA.size, hA.block⟩⟩

theorem gone_moved {w wr V : World} {base b m n cap k0 k g : Nat} {xs : List Value} {cur : Array Value} {lat : Int} {F : Nat → WD} (l1 : k0 ≤ k) (l2 : k ≤ n) (hB : Blk wr b (aCells m (.slice (some ⟨g, 0, none⟩) n cap) k lat) 85) (hM : wr.heap[m]? = some (.map #[] 0))
    (hO : wr.ownsRow base 90 6 (.slice (some ⟨g, 0, none⟩) n cap) n xs) (hA : Apart (fun q => q = b ∨ (Value.slice (some ⟨g, 0, none⟩) n cap).ownBlock = some q) w wr) (hF : NamesF xs k0 n F) (hE : k = fl lat F n k0)
    (hg : wr.heap[g]? = some (.cells cur 90 (0, 0))) (hcs : cur.size = cap * 6) (hV : Turned wr V g (xs.drop (k * 6) ++ cur.toList.drop (xs.drop (k * 6)).length).toArray 90) :
    Gone w ((V.setCell ⟨b, 2, none⟩ (.slice (some ⟨g, 0, none⟩) (n - k) cap)).setCell ⟨b, 3, none⟩ (.int .i64 0)) base b m (some ⟨g, 0, none⟩) n cap lat F (fl lat F n k0) := by
  rw [← hE]
  have hVB := turned_blk hV hO hB
  have hl := hO.1
  have hbg : b ≠ g := fun e => own_ne hO hB (by simp [Value.ownBlock, e])
  obtain ⟨hbase, hncap, hmax⟩ : base ≤ g ∧ n ≤ cap ∧ cap ≤ maxLen := by
    rcases hO.2 with ⟨h, _⟩ | ⟨g', cap', cur', e, h1, _, h2, h3, _⟩
    · cases h
    · cases e; exact ⟨h1, h2, h3⟩
  have hVM : V.heap[m]? = some (.map #[] 0) := (hV.other m (fun e => by subst e; have := hg.symm.trans hM; simp at this)).trans hM
  have hVO : V.ownsRow base 90 6 (.slice (some ⟨g, 0, none⟩) (n - k) cap) (n - k) (xs.drop (k * 6)) := by
    refine ⟨by simp; omega, .inr ⟨g, cap, _, rfl, hbase, hV.own, by omega, hmax, ?_, ?_⟩⟩
    · simp; omega
    · have : (n - k) * 6 = (xs.drop (k * 6)).length := by simp; omega
      rw [this]
      simp
  have hVA : Apart (fun q => q = b ∨ (Value.slice (some ⟨g, 0, none⟩) n cap).ownBlock = some q) w V :=
    ⟨hV.os.trans hA.os, hV.tape.trans hA.tape, hV.output.trans hA.output, by rw [hV.size]; exact hA.size, fun q hq hn => (hV.other q (fun e => hn (.inr (by simp [Value.ownBlock, e])))).trans (hA.block q hq hn)⟩
  have h2 := hVB.setCell 2 (.slice (some ⟨g, 0, none⟩) (n - k) cap)
  have h2O := hVO.kept (grown_setCell V b 2 (.slice (some ⟨g, 0, none⟩) (n - k) cap)) (.inr (own_ne hVO hVB))
  refine ⟨n - k, 0, xs.drop (k * 6), by omega, by omega, by omega, .inl rfl, h2.setCell 3 _, map_setCell h2 (map_setCell hVB hVM), h2O.kept (grown_setCell _ b 3 _) (.inr (own_ne h2O h2)), ?_, (hVA.setCell b 2 _ (.inl rfl)).setCell b 3 _ (.inl rfl)⟩
  intro i hi q hq
  rw [List.getElem?_drop, ← hF (k + i) (by omega) hi q hq]
  congr 1
  omega

set_option maxHeartbeats 2000000 in
theorem expire_any (base b m : Nat) (p : Option Addr) (n cap k0 : Nat) (xs : List Value) (lat : Int) (F : Nat → WD) (w : World) (hB : Blk w b (aCells m (.slice p n cap) k0 lat) 85) (hM : w.heap[m]? = some (.map #[] 0)) (hO : w.ownsRow base 90 6 (.slice p n cap) n xs)
    (hF : NamesF xs k0 n F) (ht : Tms n F) (hk : k0 ≤ n) (hn : n ≤ 32768) (h1 : -9223372036854775808 ≤ lat) (h2 : lat ≤ 9223372036854775807) :
    Calls Try.prog 32 #[.pointer (some ⟨b, 0, none⟩)] w fun r w' => r = .returned (.tuple #[]) ∧ Gone w w' base b m p n cap lat F (fl lat F n k0) := by
  go_enter Try.func32, Try.ntmps32
  go_upto_block 0 with fail
  go_cut [2, 3] from 4 to 61 (fun t2 t3 wx => ∃ k, Stop w wx base b m p n cap xs lat F k0 k)
  case first =>
    go_wp2_with fail
    go_loopw [2, 3] (fun t2 t3 wr => ∃ k, Loop w wr base b m p n cap xs lat F k0 k) (fun _ _ wr => n - waitedIn wr b)
    case atStart => exact ⟨k0, Nat.le_refl _, hk, hB, hM, hO, rfl, Apart.refl _ _⟩
    case round =>
      obtain ⟨k, l1, l2, mB, mM, mO, mE, mA⟩ := hrel
      by_cases hlt : k < n
      · obtain ⟨g, cap', e, _, hg⟩ := mO.form (by omega)
        cases e
        obtain ⟨d0, d1, d2, d3, d4, d5⟩ := own_name mO hF l1 hlt
        obtain ⟨t1, t2⟩ := ht k hlt
        have HX := fun W h => expired_any b m (.slice (some ⟨g, 0, none⟩) n cap) k lat (F k).t W h h1 h2 t1 t2
        unfold tT tv at HX
        have start : (∀ j, wr.drew.cell? ⟨b, j, none⟩ = (aCells m (.slice (some ⟨g, 0, none⟩) n cap) k lat)[j]?) ∧ wr.drew.cell? ⟨g, k * 6, none⟩ = some (.int .u64 ((F k).t % 1000000000)) ∧ wr.drew.cell? ⟨g, k * 6 + 1, none⟩ = some (.int .i64 ((F k).t / 1000000000)) ∧ wr.drew.cell? ⟨g, k * 6 + 2, none⟩ = some (.pointer none) ∧
          Blk wr.drew b (aCells m (.slice (some ⟨g, 0, none⟩) n cap) k lat) 85 ∧ g < wr.heap.size ∧ Below wr.heap.size wr wr.drew := ⟨mB.drew.cell, d0, d1, d2, mB.drew, hg, (Below.refl _ _).drew⟩
        have c2 := aC2 m (.slice (some ⟨g, 0, none⟩) n cap) k lat
        have c3 := aC3 m (.slice (some ⟨g, 0, none⟩) n cap) k lat
        have hd : decide ((k : Int) < (n : Int)) = true := by simpa using hlt
        by_cases ho : older lat (F k).t = true
        · go_wp2_with fail
          go_region_held3 (fun W => (∀ j, W.cell? ⟨b, j, none⟩ = (aCells m (.slice (some ⟨g, 0, none⟩) n cap) k lat)[j]?) ∧ W.cell? ⟨g, k * 6, none⟩ = some (.int .u64 ((F k).t % 1000000000)) ∧ W.cell? ⟨g, k * 6 + 1, none⟩ = some (.int .i64 ((F k).t / 1000000000)) ∧ W.cell? ⟨g, k * 6 + 2, none⟩ = some (.pointer none) ∧
              Blk W b (aCells m (.slice (some ⟨g, 0, none⟩) n cap) k lat) 85 ∧ g < wr.heap.size ∧ Below wr.heap.size wr W)
            (first | with_reducible exact keepX (by assumption) (by assumption) | with_reducible exact start)
            (first | (go_at_call 42; refine (HX _ (by assumption)).mono ?_; rintro r w1 ⟨rfl, hb⟩))
          obtain ⟨_, _, _, _, qB, _, qb⟩ := (by assumption : (∀ j, _ = (aCells m (.slice (some ⟨g, 0, none⟩) n cap) k lat)[j]?) ∧ _ ∧ _ ∧ _ ∧ _ ∧ _ ∧ Below wr.heap.size wr _)
          have qO := own_below mO qb
          have qM := later_map qb mM
          have qE : Hid (fl lat F n (k + 1) = fl lat F n k0) := (fl_step hlt ho).symm.trans mE
          have qA : Apart (fun q => q = b ∨ (Value.slice (some ⟨g, 0, none⟩) n cap).ownBlock = some q) w w1 := mA.trans (Apart.of_below qb)
          obtain ⟨_, _, _, d3', d4', d5'⟩ := own_name qO hF l1 hlt
          have hlt' := qB.lt
          have hne : b ≠ w1.heap.size := by omega
          have hne' : w1.heap.size ≠ b := by omega
          have cB := qB.cell
          have cB' := fun o => (qB.alloc o).cell
          have fB' := fun o => (qB.alloc o).frozen
          have c1 := aC1 m (.slice (some ⟨g, 0, none⟩) n cap) k lat
          have d3'' := fun o => cellA o d3'
          have d4'' := fun o => cellA o d4'
          have d5'' := fun o => cellA o d5'
          have hw : IntKind.i64.wrap ((k : Int) + 1) = ((k + 1 : Nat) : Int) := by rw [IntKind.wrap_i64]; omega
          obtain ⟨z, ez, zW⟩ : ∃ z, (w1.alloc (.cells #[.int .u16 (F k).cic, .int .u32 (F k).lo, .int .u32 (F k).hi] 60)).drew = z ∧ With z base b m w1.heap.size (.slice (some ⟨g, 0, none⟩) n cap) n k xs lat (F k) w := ⟨_, rfl, with_new (F k) qB qO qM qA⟩
          have EZ : Hid ((w1.alloc (.cells #[.int .u16 (F k).cic, .int .u32 (F k).lo, .int .u32 (F k).hi] 60)).drew = z) := ez
          clear ez
          obtain ⟨y, ey, yW⟩ : ∃ y, z.setCell ⟨b, 3, none⟩ (.int .i64 ((k : Int) + 1)) = y ∧ With y base b m w1.heap.size (.slice (some ⟨g, 0, none⟩) n cap) n ((k : Int) + 1) xs lat (F k) w := ⟨_, rfl, with_set zW hne⟩
          have EY : Hid (z.setCell ⟨b, 3, none⟩ (.int .i64 ((k : Int) + 1)) = y) := ey
          clear ey
          have hwt : Hid (waitedIn wr b = k) := waitedIn_eq mB
          clear qB qO qM qA qb start HX d0 d1 d2 d3 d4 d5 mB mM mO mE mA hB hM hO
          go_wp2_with fail
          go_region
          rw [EZ.out]
          clear EZ cB cB' fB' d3' d4' d5' d3'' d4'' d5''
          have cz := zW.1.cell
          have fz := zW.1.frozen
          go_wp2_with fail
          rw [EY.out]
          clear EY cz fz zW
          obtain ⟨yB, y0, y1, y2, yM, yO, yA⟩ := yW
          have cy := yB.cell
          have c1' := aC1 m (.slice (some ⟨g, 0, none⟩) n cap) ((k : Int) + 1) lat
          have HY : Hid (_ ∧ _ ∧ _ ) := ⟨yB, yO, yA⟩
          clear yB yO yA c1 c2 c3 hlt' hne hne' 
          go_quiet (fail)
          go_wp2_with fail
          go_roundw
          case rel =>
            obtain ⟨yB, yO, yA⟩ := HY.out
            exact ⟨k + 1, with_loop (e := 0) (d := F k) l1 hlt yB yM yO yA qE.out⟩
          case measure =>
            obtain ⟨yB, yO, yA⟩ := HY.out
            have : waitedIn (y.drewN nq) b = k + 1 := waitedIn_eq (m := m) (v := .slice (some ⟨g, 0, none⟩) n cap) (lat := lat) (k := k + 1) yB
            rw [this, hwt.out]
            omega
        · have ho' : older lat (F k).t = false := by simpa using ho
          clear ho
          go_wp2_with fail
          go_region_held3 (fun W => (∀ j, W.cell? ⟨b, j, none⟩ = (aCells m (.slice (some ⟨g, 0, none⟩) n cap) k lat)[j]?) ∧ W.cell? ⟨g, k * 6, none⟩ = some (.int .u64 ((F k).t % 1000000000)) ∧ W.cell? ⟨g, k * 6 + 1, none⟩ = some (.int .i64 ((F k).t / 1000000000)) ∧ W.cell? ⟨g, k * 6 + 2, none⟩ = some (.pointer none) ∧
              Blk W b (aCells m (.slice (some ⟨g, 0, none⟩) n cap) k lat) 85 ∧ g < wr.heap.size ∧ Below wr.heap.size wr W)
            (first | with_reducible exact keepX (by assumption) (by assumption) | with_reducible exact start)
            (first | (go_at_call 42; refine (HX _ (by assumption)).mono ?_; rintro r w1 ⟨rfl, hb⟩))
          obtain ⟨_, _, _, _, qB, _, qb⟩ := (by assumption : (∀ j, _ = (aCells m (.slice (some ⟨g, 0, none⟩) n cap) k lat)[j]?) ∧ _ ∧ _ ∧ _ ∧ _ ∧ _ ∧ Below wr.heap.size wr _)
          have HS : Hid (Stop w _ base b m (some ⟨g, 0, none⟩) n cap xs lat F k0 k) := ⟨l1, l2, qB, later_map qb mM, own_below mO qb, (fl_live hlt ho').symm.trans mE, mA.trans (Apart.of_below qb)⟩
          go_wp2_with fail
          go_meet
          exact ⟨k, HS.out⟩
      · have hd : decide ((k : Int) < (n : Int)) = false := by simp; omega
        have c := mB.cell
        have c2 := aC2 m (.slice p n cap) k lat
        have c3 := aC3 m (.slice p n cap) k lat
        have kE : Hid (k = fl lat F n k0) := (fl_stop (by omega)).symm.trans mE
        have HH : Hid (_ ∧ _ ∧ _ ∧ _) := ⟨mB, mM, mO, mA⟩
        clear mB mM mO mA mE hB hM hO
        go_wp2_with fail
        go_quiet (fail)
        go_wp2_with fail
        go_meet
        exact ⟨k, l1, l2, HH.out.1, HH.out.2.1, HH.out.2.2.1, kE.out, HH.out.2.2.2.drewN nq⟩
  case rest =>
    obtain ⟨k, l1, l2, wB, wM, wO, kE, wA⟩ := hcut
    revert wB wM wO wA
    generalize wc = W
    intro wB wM wO wA
    clear hB hM hO
    have c := wB.cell
    have c2 := aC2 m (.slice p n cap) k lat
    have c3 := aC3 m (.slice p n cap) k lat
    have ew : IntKind.i64.wrap ((n : Int) - k) = (n : Int) - k := by rw [IntKind.wrap_i64]; omega
    by_cases g1 : 0 < k
    · have e1 : decide ((0 : Int) < (k : Int)) = true := by simpa using g1
      by_cases g2 : n - k ≤ k
      · have e2 : decide ((n : Int) - k ≤ (k : Int)) = true := by simp; omega
        obtain ⟨g, cur, e, hg, hncap, hcs, hct⟩ := own_row wO (by omega)
        cases e
        obtain ⟨ad, had, hadx⟩ : ∃ ad, (if cap = k then some (⟨g, 0, none⟩ : Addr) else some ⟨g, k * 6, none⟩) = some ad ∧ (k < n → ad = ⟨g, k * 6, none⟩) := by
          by_cases h : cap = k
          · exact ⟨_, by rw [if_pos h], fun _ => by omega⟩
          · exact ⟨_, by rw [if_neg h], fun _ => rfl⟩
        have hxl := wO.1
        have hsz : (Try.prog.info? 90).map (·.size) = some 6 := by kernel_rfl
        have hmin : Nat.min (n - k) n = n - k := Nat.min_eq_left (by omega)
        have hdl : (xs.drop (k * 6)).length = (n - k) * 6 := by simp; omega
        have hsrc := copy_src (cap := cap) (k := k) (ad := ad) hg hxl hct hadx
        have hfit : (xs.drop (k * 6)).length ≤ cur.size := by omega
        have hone := names_one hxl (fun i h1 h2 => hF i (by omega) h2 : NamesF xs k n F)
        have HX : Hid (_ ∧ _) := ⟨hg, hcs⟩
        have hck : n ≤ cap + k := by omega
        have HH : Hid (_ ∧ _ ∧ _ ∧ _ ∧ _) := ⟨wB, wM, wO, wA, kE⟩
        clear wB wM wO wA kE
        go_wp2_with fail
        go_quiet (fail)
        go_wp2_with fail
        go_region_law (first | (show if Region.wanted { dst := some 102, op := _, type := _, pos := _, after := _, guard := _ } _ = true then _ else _; refine step_copy_turned rfl (.tmp 92) (.tmp 101) 81 81 rfl 90 6 Try.underlying81 hsz g n cap ad (n - k) (cap - k) (n - k) rfl rfl cur 90 hg (xs.drop (k * 6)) hmin hdl hsrc hfit hone ?_; intro V hV; have hVB := turned_blk hV HH.out.2.2.1 HH.out.1; have c' := hVB.cell; have f' := hVB.frozen; have HV : Hid (Turned _ _ _ _ _) := hV; clear hV hVB))
        all_goals
          go_wp2_with fail
          go_end0
          obtain ⟨wB, wM, wO, wA, kE⟩ := HH.out
          obtain ⟨hg, hcs⟩ := HX.out
          exact ⟨rfl, gone_moved (wr := W.drewN _) l1 l2 wB wM wO (wA.drewN _) hF kE hg hcs HV.out⟩
      · have e2 : decide ((n : Int) - k ≤ (k : Int)) = false := by simp; omega
        have HH : Hid (_ ∧ _ ∧ _ ∧ _ ∧ _) := ⟨wB, wM, wO, wA, kE⟩
        clear wB wM wO wA kE
        go_wp2_with fail
        go_quiet (fail)
        go_wp2_with fail
        go_end0
        obtain ⟨wB, wM, wO, wA, kE⟩ := HH.out
        exact ⟨rfl, gone_stay l1 l2 wB wM wO wA hF (.inr (by omega)) kE⟩
    · have e1 : decide ((0 : Int) < (k : Int)) = false := by simp; omega
      have HH : Hid (_ ∧ _ ∧ _ ∧ _ ∧ _) := ⟨wB, wM, wO, wA, kE⟩
      clear wB wM wO wA kE
      go_wp2_with fail
      go_quiet (fail)
      go_wp2_with fail
      go_end0
      obtain ⟨wB, wM, wO, wA, kE⟩ := HH.out
      exact ⟨rfl, gone_stay l1 l2 wB wM wO wA hF (.inl (by omega)) kE⟩

end Go.Proofs.Qxb6603484a
