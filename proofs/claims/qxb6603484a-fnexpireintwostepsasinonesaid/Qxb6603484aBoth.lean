/-
  TWO ASSEMBLERS in memory, apart from each other and from the list of names: what each step keeps.
-/
import Derived.Test.Qxb6603484aLive
namespace Go.Proofs.Qxb6603484a
open Go.RowKit
set_option linter.unusedVariables false

def ob (p : Option Addr) : Option Nat := p.map (·.block)
theorem own_slice (p : Option Addr) (n cap : Nat) : (Value.slice p n cap).ownBlock = ob p := by cases p <;> rfl

theorem own_apart {S : Nat → Prop} {w w' : World} {base n : Nat} {v : Value} {xs : List Value} (h : w.ownsRow base 90 6 v n xs) (hA : Apart S w w') (hS : ∀ q, v.ownBlock = some q → ¬ S q) : w'.ownsRow base 90 6 v n xs := by
  obtain ⟨hl, h0 | ⟨g, cap, cur, e, h1, h2, h3⟩⟩ := h
  · exact ⟨hl, .inl h0⟩
  · subst e
    exact ⟨hl, .inr ⟨g, cap, cur, rfl, h1, (hA.block g (Array.getElem?_eq_some_iff.mp h2).1 (hS g rfl)).trans h2, h3⟩⟩

theorem St.apart {S : Nat → Prop} {w w' : World} {base b m n cap k N K : Nat} {p : Option Addr} {lat : Int} {F : Nat → WD} (h : St w base b m p n cap k lat N K F) (hA : Apart S w w') (hb : ¬ S b) (hm : ¬ S m) (hp : ∀ q, ob p = some q → ¬ S q) :
    St w' base b m p n cap k lat N K F := by
  obtain ⟨hk, hK, he, hn, hB, hM, xs, hO, hx⟩ := h
  exact ⟨hk, hK, he, hn, hA.blk hB hb, (hA.block m (Array.getElem?_eq_some_iff.mp hM).1 hm).trans hM, xs, own_apart hO hA (fun q hq => hp q (by rwa [own_slice] at hq)), hx⟩
theorem St.later {w w' : World} {base b m n cap k N K : Nat} {p : Option Addr} {lat : Int} {F : Nat → WD} (h : St w base b m p n cap k lat N K F) (hb : Below w.heap.size w w') : St w' base b m p n cap k lat N K F :=
  h.apart (S := fun _ => False) (Apart.of_below hb) (fun h => h) (fun h => h) (fun _ _ h => h)
theorem St.lt {w : World} {base b m n cap k N K : Nat} {p : Option Addr} {lat : Int} {F : Nat → WD} (h : St w base b m p n cap k lat N K F) : b < w.heap.size := h.2.2.2.2.1.lt
theorem St.blk {w : World} {base b m n cap k N K : Nat} {p : Option Addr} {lat : Int} {F : Nat → WD} (h : St w base b m p n cap k lat N K F) : Blk w b (aCells m (.slice p n cap) (k : Nat) lat) 85 := h.2.2.2.2.1
theorem St.map {w : World} {base b m n cap k N K : Nat} {p : Option Addr} {lat : Int} {F : Nat → WD} (h : St w base b m p n cap k lat N K F) : w.heap[m]? = some (.map #[] 0) := h.2.2.2.2.2.1
theorem St.len {w : World} {base b m n cap k N K : Nat} {p : Option Addr} {lat : Int} {F : Nat → WD} (h : St w base b m p n cap k lat N K F) : n ≤ N := h.2.2.2.1
theorem St.latest {w w' : World} {base b m n cap k N K : Nat} {p : Option Addr} {lat lat' : Int} {F : Nat → WD} (h : St w base b m p n cap k lat N K F) (hB' : Blk w' b (aCells m (.slice p n cap) (k : Nat) lat') 85) (hA : Apart (· = b) w w') :
    St w' base b m p n cap k lat' N K F := by
  obtain ⟨hk, hK, he, hn, hB, hM, xs, hO, hx⟩ := h
  exact ⟨hk, hK, he, hn, hB', (hA.block m (Array.getElem?_eq_some_iff.mp hM).1 (fun e => by subst e; have := hB.symm.trans hM; simp at this)).trans hM, xs, own_apart hO hA (fun q hq e => own_ne hO hB (by rw [hq, e])), hx⟩

theorem wRow_below {w w' : World} {p : Option Addr} {n N : Nat} {f : Nat → WD} (h : WRow w p n f) (hb : Below N w w') (hp : n = 0 ∨ ∀ x, p = some x → x.block < N) : WRow w' p n f := by
  rcases hp with hp | hp
  · exact .inl hp
  rcases h with h | ⟨b, off, rfl, h⟩
  · exact .inl h
  · have hlt : b < N := hp _ rfl
    refine .inr ⟨b, off, rfl, fun j hj => ?_⟩
    obtain ⟨h0, h1, h2, h3⟩ := h j hj
    exact ⟨(hb.cell hlt).trans h0, (hb.cell hlt).trans h1, (hb.cell hlt).trans h2, (hb.cell hlt).trans h3⟩

/-- Who lies where. -/
structure Sep (H b1 b2 A mA : Nat) (pA : Option Addr) (B mB : Nat) (pB pw : Option Addr) (n : Nat) : Prop where
  low : H ≤ b1
  a1 : b1 ≤ A
  a2 : A < b2
  ma1 : b1 ≤ mA
  ma2 : mA < b2
  pa : ∀ q, ob pA = some q → b1 ≤ q ∧ q < b2
  bb : b2 ≤ B
  mb : b2 ≤ mB
  pb : ∀ q, ob pB = some q → b2 ≤ q
  row : n = 0 ∨ ∀ x, pw = some x → x.block < b1

structure Both (W w : World) (b1 b2 A mA : Nat) (pA : Option Addr) (cA B mB : Nat) (pB : Option Addr) (cB : Nat) (pw : Option Addr) (n : Nat) (F : Nat → WD) (nA kA : Nat) (lA : Int) (KA nB kB : Nat) (lB : Int) (KB : Nat) : Prop where
  a : St w b1 A mA pA nA cA kA lA n KA F
  b : St w b2 B mB pB nB cB kB lB n KB F
  row : WRow w pw n F
  sep : Sep W.heap.size b1 b2 A mA pA B mB pB pw n
  bel : Below W.heap.size W w

section
variable {W w w' : World} {b1 b2 A mA : Nat} {pA : Option Addr} {cA B mB : Nat} {pB : Option Addr} {cB : Nat} {pw : Option Addr} {n : Nat} {F : Nat → WD} {nA kA : Nat} {lA : Int} {KA nB kB : Nat} {lB : Int} {KB : Nat}

theorem Both.later (h : Both W w b1 b2 A mA pA cA B mB pB cB pw n F nA kA lA KA nB kB lB KB) (hb : Below w.heap.size w w') : Both W w' b1 b2 A mA pA cA B mB pB cB pw n F nA kA lA KA nB kB lB KB :=
  ⟨h.a.later hb, h.b.later hb, wRow_later hb h.row, h.sep, h.bel.trans (hb.mono h.bel.size)⟩
theorem Both.stepA {nA' kA' KA' : Nat} {lA' : Int} (h : Both W w b1 b2 A mA pA cA B mB pB cB pw n F nA kA lA KA nB kB lB KB) (hA : Apart (fun q => q = A ∨ ob pA = some q) w w') (h' : St w' b1 A mA pA nA' cA kA' lA' n KA' F) :
    Both W w' b1 b2 A mA pA cA B mB pB cB pw n F nA' kA' lA' KA' nB kB lB KB := by
  have s := h.sep
  have hb : ∀ N, N ≤ b1 → Below N w w' := fun N hN => hA.below (by have := h.a.lt; have := s.a1; omega) (fun q hq hS => by
    rcases hS with e | e
    · have := s.a1; omega
    · have := (s.pa q e).1; omega)
  refine ⟨h', h.b.apart hA ?_ ?_ ?_, wRow_below h.row (hb b1 (Nat.le_refl _)) s.row, s, h.bel.trans (hb _ s.low)⟩
  · rintro (e | e)
    · have := s.a2; have := s.bb; omega
    · have := (s.pa _ e).2; have := s.bb; omega
  · rintro (e | e)
    · have := s.a2; have := s.mb; omega
    · have := (s.pa _ e).2; have := s.mb; omega
  · rintro q hq (e | e)
    · have := s.pb q hq; have := s.a2; omega
    · have := (s.pa _ e).2; have := s.pb q hq; omega
theorem Both.stepB {nB' kB' KB' : Nat} {lB' : Int} (h : Both W w b1 b2 A mA pA cA B mB pB cB pw n F nA kA lA KA nB kB lB KB) (hA : Apart (fun q => q = B ∨ ob pB = some q) w w') (h' : St w' b2 B mB pB nB' cB kB' lB' n KB' F) :
    Both W w' b1 b2 A mA pA cA B mB pB cB pw n F nA kA lA KA nB' kB' lB' KB' := by
  have s := h.sep
  have h12 : b1 ≤ b2 := by have := s.a1; have := s.a2; omega
  have hb : ∀ N, N ≤ b1 → Below N w w' := fun N hN => hA.below (by have := h.a.lt; have := s.a1; omega) (fun q hq hS => by
    rcases hS with e | e
    · have := s.bb; omega
    · have := s.pb q e; omega)
  refine ⟨h.a.apart hA ?_ ?_ ?_, h', wRow_below h.row (hb b1 (Nat.le_refl _)) s.row, s, h.bel.trans (hb _ s.low)⟩
  · rintro (e | e)
    · have := s.a2; have := s.bb; omega
    · have := s.pb _ e; have := s.a2; omega
  · rintro (e | e)
    · have := s.ma2; have := s.bb; omega
    · have := s.pb _ e; have := s.ma2; omega
  · rintro q hq (e | e)
    · have := (s.pa q hq).2; have := s.bb; omega
    · have := (s.pa q hq).2; have := s.pb _ e; omega
end

/-- buildAssembler, as a state. -/
theorem buildS_any (lat : Int) (p : Option Addr) (n cap k : Nat) (f : Nat → WD) (w : World) (h1 : -9223372036854775808 ≤ lat) (h2 : lat ≤ 9223372036854775807) (hr : WRow w p n f) (ht : Tms n f) (hk : k ≤ n) (hn : n ≤ 32768) :
    Calls Try.prog 19 #[.int .i64 lat, .slice p n cap, .int .i64 k] w fun r w' => ∃ A pA cA, r = .returned (.pointer (some ⟨A, 0, none⟩)) ∧ St w' w.heap.size A w.heap.size pA n cA k lat n k f ∧ w.heap.size ≤ A ∧ A < w'.heap.size ∧ (∀ q, ob pA = some q → w.heap.size ≤ q ∧ q < w'.heap.size) ∧ w.heap.size < w'.heap.size ∧ Below w.heap.size w w' := by
  refine (build_any lat p n cap k f w h1 h2 hr ht hk hn).mono ?_
  rintro r w' ⟨rfl, q, c, xs, mB, mM, mO, mN, mb⟩
  have hlt := mB.lt
  refine ⟨w.heap.size + 1, q, c, rfl, ⟨hk, hk, rfl, Nat.le_refl _, mB, mM, xs, mO, fun i hi q hq => mN (k + i) hi q hq⟩, by omega, hlt, fun g hg => mO.lt g (by rw [own_slice]; exact hg), by omega, mb⟩

end Go.Proofs.Qxb6603484a
