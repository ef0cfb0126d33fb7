/-
  SMALL LAWS on whole structs in memory: built, stored, loaded, handed back, without laying their cells out one by one.
-/
import Derived.Test.Qxb6603484aTime3
import Derived.Laws.Rows
import Derived.Laws.Tables
import Derived.Deep.MidRow
namespace Go.Proofs.Qxb6603484a
open Go.RowKit
set_option linter.unusedVariables false

/-- Block b is an array of cells, not frozen. -/
def Blk (w : World) (b : Nat) (C : Array Value) (t : TypeId) : Prop := w.heap[b]? = some (.cells C t (0, 0))

theorem Blk.lt {w : World} {b : Nat} {C : Array Value} {t : TypeId} (h : Blk w b C t) : b < w.heap.size := (Array.getElem?_eq_some_iff.mp h).1
theorem Blk.cell {w : World} {b : Nat} {C : Array Value} {t : TypeId} (h : Blk w b C t) (j : Nat) : w.cell? ⟨b, j, none⟩ = C[j]? := cell_of_row w b j C t (0, 0) h
theorem Blk.frozen {w : World} {b : Nat} {C : Array Value} {t : TypeId} (h : Blk w b C t) (j : Nat) : w.frozen? ⟨b, j, none⟩ = false := frozen_of_row w b j C t h
theorem Blk.there {w : World} {b : Nat} {C : Array Value} {t : TypeId} (h : Blk w b C t) (n : Nat) (hn : n ≤ C.size) : w.there b 0 n := fun j hj => by
  rw [h.cell (0 + j)]
  exact ⟨by simp; omega, h.frozen (0 + j)⟩
theorem Blk.later {w w1 : World} {b : Nat} {C : Array Value} {t : TypeId} (h : Blk w b C t) (hb : Below w.heap.size w w1) : Blk w1 b C t := (hb.block b h.lt).trans h
theorem Blk.below {w w1 : World} {b B : Nat} {C : Array Value} {t : TypeId} (h : Blk w b C t) (hb : Below B w w1) (hlt : b < B) : Blk w1 b C t := (hb.block b hlt).trans h
theorem Blk.alloc {w : World} {b : Nat} {C : Array Value} {t : TypeId} (h : Blk w b C t) (o : Obj) : Blk (w.alloc o) b C t := (Below.heap_alloc w o b h.lt).trans h
theorem Blk.new (w : World) (C : Array Value) (t : TypeId) : Blk (w.alloc (.cells C t)) w.heap.size C t := heap_alloc_new w _
theorem Blk.drew {w : World} {b : Nat} {C : Array Value} {t : TypeId} (h : Blk w b C t) : Blk w.drew b C t := h
theorem Blk.setCell {w : World} {b : Nat} {C : Array Value} {t : TypeId} (h : Blk w b C t) (j : Nat) (u : Value) : Blk (w.setCell ⟨b, j, none⟩ u) b (C.setIfInBounds j u) t := heap_setCell_same w b j C t u h
theorem Blk.setCell_far {w : World} {b : Nat} {C : Array Value} {t : TypeId} (h : Blk w b C t) (a : Addr) (u : Value) (hne : b ≠ a.block) : Blk (w.setCell a u) b C t := (Below.heap_setCell w a u b hne).trans h
theorem Blk.setCells_far {b : Nat} {C : Array Value} {t : TypeId} (b2 : Nat) (hne : b ≠ b2) : ∀ (vs : List Value) (o : Nat) (w : World), Blk w b C t → Blk (w.setCells b2 o vs) b C t
  | [], _, _, h => h
  | v :: r, o, w, h => Blk.setCells_far b2 hne r (o + 1) _ (h.setCell_far ⟨b2, o, none⟩ v hne)

/-- Storing a list over a whole block of that length leaves the list. -/
theorem set_list (u : Value) : ∀ (pre post : List Value) (v : Value), (pre ++ v :: post).toArray.setIfInBounds pre.length u = (pre ++ u :: post).toArray := fun pre post v => by
  simp [List.set_append_right]
theorem Blk.setCells_go {b : Nat} {t : TypeId} : ∀ (vs pre post : List Value) (w : World), vs.length = post.length → Blk w b (pre ++ post).toArray t → Blk (w.setCells b pre.length vs) b (pre ++ vs).toArray t
  | [], pre, post, w, hl, h => by
    have : post = [] := List.length_eq_zero_iff.mp hl.symm
    subst this
    exact h
  | v :: r, pre, [], w, hl, h => by simp at hl
  | v :: r, pre, x :: post, w, hl, h => by
    have h1 := h.setCell pre.length v
    rw [set_list] at h1
    have h2 := Blk.setCells_go r (pre ++ [v]) post (w.setCell ⟨b, pre.length, none⟩ v) (by simpa using hl) (by simpa using h1)
    simpa [World.setCells] using h2
theorem Blk.setCells {w : World} {b : Nat} {C D : Array Value} {t : TypeId} (h : Blk w b C t) (hs : D.size = C.size) : Blk (w.setCells b 0 D.toList) b D t := by
  have := Blk.setCells_go D.toList [] C.toList w (by simpa using hs) (by simpa using h)
  simpa using this

theorem below_setCells {B : Nat} {a : World} (b : Nat) (hb : B ≤ b) : ∀ (vs : List Value) (o : Nat) (w : World), Below B a w → Below B a (w.setCells b o vs)
  | [], _, _, h => h
  | v :: r, o, w, h => below_setCells b hb r (o + 1) _ (h.setCell (p := ⟨b, o, none⟩) hb v)
theorem size_setCells (b : Nat) : ∀ (vs : List Value) (o : Nat) (w : World), (w.setCells b o vs).heap.size = w.heap.size
  | [], _, _ => rfl
  | v :: r, o, w => by rw [World.setCells, size_setCells b r]; simp [World.setCell]

/-- A calls.Record as a result: it lies in a block of its own. -/
theorem ret38 {fn : Func} {p : Tmp} (h : fn.results = #[.cell p 38]) (tmps : Array Value) (w : World) (g : Nat) (t : TypeId) (cs : Array Value)
    (hp : tmps.getD p undef = .pointer (some ⟨g, 0, none⟩)) (hg : Blk w g cs t) (hi : cs.size = 20) :
    (results fn tmps).run Try.prog w = .ok (.agg cs) w := results_cell_row h tmps w g t cs (0, 0) _ hp hg Try.underlying38 rfl (by rw [hi]; kernel_rfl)

/-! ### rules for the walk: a build and a store of a great struct -/
def ptrB : Value → Nat | .pointer (some a) => a.block | _ => 0
def aggC : Value → Array Value | .agg cs => cs | _ => #[]
@[simp] theorem ptrB_mk (a : Addr) : ptrB (.pointer (some a)) = a.block := rfl
@[simp] theorem aggC_mk (cs : Array Value) : aggC (.agg cs) = cs := rfl

theorem Try.size38 : (Try.prog.info? 38).map (·.size) = some 20 := by kernel_rfl
theorem Try.size26 : (Try.prog.info? 26).map (·.size) = some 14 := by kernel_rfl
theorem Try.size28 : (Try.prog.info? 28).map (·.size) = some 10 := by kernel_rfl
theorem Try.size62 : (Try.prog.info? 62).map (·.size) = some 24 := by kernel_rfl
theorem Try.size65 : (Try.prog.info? 65).map (·.size) = some 12 := by kernel_rfl

theorem exec_built {P : Program} (t : TypeId) (ρ : Operand → Value) (dst : Option Tmp) (parts : Array (Nat × Operand)) (ty : TypeId) (pos : String) (after : Array Edge) (g : Option (Nat × Bool)) (w : World)
    (h : (P.built t (parts.map fun p => (p.1, ρ p.2)).toList).isSome = true) :
    (execOp ρ ⟨dst, .build t parts, ty, pos, after, g⟩).run P w = .ok (.value (.agg ((P.built t (parts.map fun p => (p.1, ρ p.2)).toList).getD #[]))) w := by
  generalize hF : (parts.map fun p => (p.1, ρ p.2)) = F at h
  obtain ⟨cells, hc⟩ := Option.isSome_iff_exists.mp h
  rw [hc]
  have := run_build (P := P) w t F cells hc
  rw [← hF] at this
  have e : execOp ρ ⟨dst, .build t parts, ty, pos, after, g⟩ = (do pure (.value (← Instr.build t (parts.map fun p => (p.1, ρ p.2))))) := rfl
  rw [e, Sem.run_bind, this]
  rfl
theorem exec_stored (t : TypeId) (n : Nat) (ρ : Operand → Value) (dst : Option Tmp) (x y : Operand) (ty : TypeId) (pos : String) (after : Array Edge) (g : Option (Nat × Bool)) (w : World) (hn : (Try.prog.info? t).map (·.size) = some n)
    (hp : ρ x = .pointer (some ⟨ptrB (ρ x), 0, none⟩)) (hv : ρ y = .agg (aggC (ρ y))) (hs : (aggC (ρ y)).size = n) (ht : w.there (ptrB (ρ x)) 0 n) (h1 : (aggC (ρ y)).all (·.oneCell') = true) :
    (execOp ρ ⟨dst, .store t x y, ty, pos, after, g⟩).run Try.prog w = .ok .skip (w.setCells (ptrB (ρ x)) 0 (aggC (ρ y)).toList) := by
  obtain ⟨b, hb⟩ : ∃ b, ρ x = .pointer (some ⟨b, 0, none⟩) := ⟨_, hp⟩
  obtain ⟨cs, hcs⟩ : ∃ cs, ρ y = .agg cs := ⟨_, hv⟩
  clear hp hv
  rw [hb] at ht
  rw [hcs] at hs h1
  simp only [ptrB_mk, aggC_mk] at ht hs h1
  have := run_storeAt_mid (P := Try.prog) w b 0 t cs (by rw [hs]; exact ht) (by rw [hn, hs]) h1
  simp only [execOp, hb, hcs, ptrB_mk, aggC_mk, Sem.run_bind, this, Result.andThen_ok, Sem.run_pure]
theorem exec_build38 (ρ : Operand → Value) (dst : Option Tmp) (parts : Array (Nat × Operand)) (ty : TypeId) (pos : String) (after : Array Edge) (g : Option (Nat × Bool)) (w : World) (h : (Try.prog.built 38 (parts.map fun p => (p.1, ρ p.2)).toList).isSome = true) :
    (execOp ρ ⟨dst, .build 38 parts, ty, pos, after, g⟩).run Try.prog w = .ok (.value (.agg ((Try.prog.built 38 (parts.map fun p => (p.1, ρ p.2)).toList).getD #[]))) w := exec_built 38 ρ dst parts ty pos after g w h
theorem exec_build62 (ρ : Operand → Value) (dst : Option Tmp) (parts : Array (Nat × Operand)) (ty : TypeId) (pos : String) (after : Array Edge) (g : Option (Nat × Bool)) (w : World) (h : (Try.prog.built 62 (parts.map fun p => (p.1, ρ p.2)).toList).isSome = true) :
    (execOp ρ ⟨dst, .build 62 parts, ty, pos, after, g⟩).run Try.prog w = .ok (.value (.agg ((Try.prog.built 62 (parts.map fun p => (p.1, ρ p.2)).toList).getD #[]))) w := exec_built 62 ρ dst parts ty pos after g w h
theorem exec_build65 (ρ : Operand → Value) (dst : Option Tmp) (parts : Array (Nat × Operand)) (ty : TypeId) (pos : String) (after : Array Edge) (g : Option (Nat × Bool)) (w : World) (h : (Try.prog.built 65 (parts.map fun p => (p.1, ρ p.2)).toList).isSome = true) :
    (execOp ρ ⟨dst, .build 65 parts, ty, pos, after, g⟩).run Try.prog w = .ok (.value (.agg ((Try.prog.built 65 (parts.map fun p => (p.1, ρ p.2)).toList).getD #[]))) w := exec_built 65 ρ dst parts ty pos after g w h
theorem exec_store38 (ρ : Operand → Value) (dst : Option Tmp) (x y : Operand) (ty : TypeId) (pos : String) (after : Array Edge) (g : Option (Nat × Bool)) (w : World)
    (hp : ρ x = .pointer (some ⟨ptrB (ρ x), 0, none⟩)) (hv : ρ y = .agg (aggC (ρ y))) (hs : (aggC (ρ y)).size = 20) (ht : w.there (ptrB (ρ x)) 0 20) (h1 : (aggC (ρ y)).all (·.oneCell') = true) :
    (execOp ρ ⟨dst, .store 38 x y, ty, pos, after, g⟩).run Try.prog w = .ok .skip (w.setCells (ptrB (ρ x)) 0 (aggC (ρ y)).toList) := exec_stored 38 20 ρ dst x y ty pos after g w Try.size38 hp hv hs ht h1
theorem exec_store26 (ρ : Operand → Value) (dst : Option Tmp) (x y : Operand) (ty : TypeId) (pos : String) (after : Array Edge) (g : Option (Nat × Bool)) (w : World)
    (hp : ρ x = .pointer (some ⟨ptrB (ρ x), 0, none⟩)) (hv : ρ y = .agg (aggC (ρ y))) (hs : (aggC (ρ y)).size = 14) (ht : w.there (ptrB (ρ x)) 0 14) (h1 : (aggC (ρ y)).all (·.oneCell') = true) :
    (execOp ρ ⟨dst, .store 26 x y, ty, pos, after, g⟩).run Try.prog w = .ok .skip (w.setCells (ptrB (ρ x)) 0 (aggC (ρ y)).toList) := exec_stored 26 14 ρ dst x y ty pos after g w Try.size26 hp hv hs ht h1
theorem exec_store28 (ρ : Operand → Value) (dst : Option Tmp) (x y : Operand) (ty : TypeId) (pos : String) (after : Array Edge) (g : Option (Nat × Bool)) (w : World)
    (hp : ρ x = .pointer (some ⟨ptrB (ρ x), 0, none⟩)) (hv : ρ y = .agg (aggC (ρ y))) (hs : (aggC (ρ y)).size = 10) (ht : w.there (ptrB (ρ x)) 0 10) (h1 : (aggC (ρ y)).all (·.oneCell') = true) :
    (execOp ρ ⟨dst, .store 28 x y, ty, pos, after, g⟩).run Try.prog w = .ok .skip (w.setCells (ptrB (ρ x)) 0 (aggC (ρ y)).toList) := exec_stored 28 10 ρ dst x y ty pos after g w Try.size28 hp hv hs ht h1

/-- A list of plain cells stored where there is room. -/
theorem run_storeList {P : Program} (w : World) (b : Nat) (cells : Array Value) (n : Nat) (hn : cells.size = n) (ht : w.there b 0 n) (h1 : cells.all (·.oneCell') = true) :
    (storeCells ⟨b, 0, none⟩ cells.toList).run P w = .ok () (w.setCells b 0 cells.toList) := by
  subst hn
  have := run_storeCells_cells (P := P) b 0 cells.toList 0 w (fun j hj => by simpa using (ht j (by simpa using hj)).1) (fun j hj => by simpa using (ht j (by simpa using hj)).2)
    (fun v hv => (Array.all_eq_true_iff_forall_mem.1 h1) v (by simpa using hv))
  simpa using this

end Go.Proofs.Qxb6603484a
