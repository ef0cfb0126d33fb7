/-
  PLAIN: the string and container readers as plain functions on a text 'g : Nat → Int' of 'n' bytes; no Go in sight.
-/
namespace Go.Proofs.Qxb6603378a.Plain

/-- How many backslashes stand in a row right before place q, none counted at or below place i. -/
def bs (g : Nat → Int) (i : Nat) : Nat → Nat
  | 0 => 0
  | q + 1 => if i < q ∧ g q = 92 then bs g i q + 1 else 0

/-- stringModel's search: m places are left, q is the next. -/
def smFrom (g : Nat → Int) (i : Nat) : Nat → Nat → Option Nat
  | 0, _ => none
  | m + 1, q => if g q = 34 ∧ bs g i q % 2 = 0 then some (q + 1) else smFrom g i m (q + 1)

def strModel (g : Nat → Int) (n i : Nat) : Option Nat := smFrom g i (n - (i + 1)) (i + 1)

/-- stringEnd's loop, with fuel: none where it would run off the text. -/
def se (g : Nat → Int) (n : Nat) : Nat → Nat → Option Nat
  | 0, _ => none
  | f + 1, p => if n ≤ p then none else if g p = 34 then some (p + 1) else if g p = 92 then se g n f (p + 2) else se g n f (p + 1)

/-- scan's loop over an array or object, with fuel. -/
def sc (g : Nat → Int) (n : Nat) : Nat → Nat → Nat → Nat → Option (Nat × Nat)
  | 0, _, _, _ => none
  | f + 1, p, o, d =>
    if n ≤ p then none
    else if g p = 34 then (se g n n (p + 1)).bind fun e => sc g n f e o d
    else if g p = 91 ∨ g p = 123 then sc g n f (p + 1) (o + 1) (max d (o + 1))
    else if g p = 93 ∨ g p = 125 then (if o = 1 then some (p + 1, d) else sc g n f (p + 1) (o - 1) d)
    else sc g n f (p + 1) o d

/-- containerModel's loop, with fuel. -/
def cm (g : Nat → Int) (n : Nat) : Nat → Nat → Nat → Option (Nat × Nat)
  | 0, _, _ => none
  | f + 1, k, inner =>
    if n ≤ k then none
    else if g k = 34 then (strModel g n k).bind fun e => cm g n f e inner
    else if g k = 91 ∨ g k = 123 then (cm g n f (k + 1) 0).bind fun r => cm g n f r.1 (max inner r.2)
    else if g k = 93 ∨ g k = 125 then some (k + 1, inner + 1)
    else cm g n f (k + 1) inner

/-! ### stringModel and stringEnd -/

theorem smFrom_some {g : Nat → Int} {i : Nat} : ∀ {m q e : Nat}, smFrom g i m q = some e →
    q < e ∧ e ≤ q + m ∧ g (e - 1) = 34 ∧ bs g i (e - 1) % 2 = 0 ∧ ∀ t, q ≤ t → t < e - 1 → ¬ (g t = 34 ∧ bs g i t % 2 = 0)
  | 0, q, e, h => by simp [smFrom] at h
  | m + 1, q, e, h => by
    unfold smFrom at h
    by_cases c : g q = 34 ∧ bs g i q % 2 = 0
    · rw [if_pos c] at h
      have h' : q + 1 = e := by simpa using h
      subst h'
      refine ⟨by omega, by omega, by simpa using c.1, by simpa using c.2, ?_⟩
      intro t h1 h2; omega
    · rw [if_neg c] at h
      obtain ⟨h1, h2, h3, h4, h5⟩ := smFrom_some h
      refine ⟨by omega, by omega, h3, h4, ?_⟩
      intro t t1 t2
      by_cases e1 : t = q
      · subst e1; exact c
      · exact h5 t (by omega) t2

theorem strModel_some {g : Nat → Int} {n i e : Nat} (h : strModel g n i = some e) :
    i + 1 < e ∧ e ≤ n ∧ g (e - 1) = 34 ∧ bs g i (e - 1) % 2 = 0 ∧ ∀ t, i < t → t < e - 1 → ¬ (g t = 34 ∧ bs g i t % 2 = 0) := by
  unfold strModel at h
  obtain ⟨h1, h2, h3, h4, h5⟩ := smFrom_some h
  refine ⟨by omega, by omega, h3, h4, fun t a b => h5 t (by omega) b⟩

theorem strModel_start (g : Nat → Int) (n i : Nat) : strModel g n i = smFrom g i (n - (i + 1)) (i + 1) := rfl
theorem smFrom_off {g : Nat → Int} {i n q : Nat} (h : n ≤ q) : smFrom g i (n - q) q = none := by
  rw [show n - q = 0 from by omega]; rfl
theorem smFrom_hit {g : Nat → Int} {i n q : Nat} (h : q < n) (c : g q = 34) (d : bs g i q % 2 = 0) : smFrom g i (n - q) q = some (q + 1) := by
  rw [show n - q = (n - (q + 1)) + 1 from by omega]; unfold smFrom; rw [if_pos ⟨c, d⟩]
theorem smFrom_miss {g : Nat → Int} {i n q : Nat} (h : q < n) (c : ¬ (g q = 34 ∧ bs g i q % 2 = 0)) : smFrom g i (n - q) q = smFrom g i (n - (q + 1)) (q + 1) := by
  rw [show n - q = (n - (q + 1)) + 1 from by omega]; conv => lhs; unfold smFrom
  rw [if_neg c]

theorem bs_succ (g : Nat → Int) (i q : Nat) : bs g i (q + 1) = if i < q ∧ g q = 92 then bs g i q + 1 else 0 := rfl
theorem bs_more {g : Nat → Int} {i k : Nat} (h : i < k) (c : g k = 92) : bs g i (k + 1) = bs g i k + 1 := by rw [bs_succ, if_pos ⟨h, c⟩]
theorem bs_stop {g : Nat → Int} {i k : Nat} (h : ¬ (i < k ∧ g k = 92)) : bs g i (k + 1) = 0 := by rw [bs_succ, if_neg h]
theorem bs_at (g : Nat → Int) (i : Nat) : bs g i (i + 1) = 0 := by simp [bs]

/-- stringEnd's loop at place p, an even run behind it, finds the quote. -/
theorem se_of {g : Nat → Int} {n i q : Nat} (hq : q < n) (h34 : g q = 34) (hev : bs g i q % 2 = 0) (hno : ∀ t, i < t → t < q → ¬ (g t = 34 ∧ bs g i t % 2 = 0)) :
    ∀ (f p : Nat), i < p → p ≤ q → bs g i p % 2 = 0 → q < p + f → se g n f p = some (q + 1)
  | 0, p, _, _, _, h => by omega
  | f + 1, p, h0, h1, h2, h3 => by
    unfold se
    rw [if_neg (by omega)]
    by_cases e : p = q
    · subst e; rw [if_pos h34]
    · have hp : g p ≠ 34 := fun c => hno p h0 (by omega) ⟨c, h2⟩
      rw [if_neg hp]
      by_cases c : g p = 92
      · rw [if_pos c]
        have r1 : bs g i (p + 1) = bs g i p + 1 := by rw [bs_succ, if_pos ⟨h0, c⟩]
        have n1 : p + 1 ≠ q := by intro e2; rw [← e2, r1] at hev; omega
        refine se_of hq h34 hev hno f (p + 2) (by omega) (by omega) ?_ (by omega)
        rw [show p + 2 = (p + 1) + 1 from rfl, bs_succ, r1]
        split <;> omega
      · rw [if_neg c]
        refine se_of hq h34 hev hno f (p + 1) (by omega) (by omega) ?_ (by omega)
        rw [bs_succ, if_neg (fun h => c h.2)]

/-- THE LAW: where stringModel finds an end, stringEnd finds the same. -/
theorem se_strModel {g : Nat → Int} {n i e f : Nat} (h : strModel g n i = some e) (hf : n ≤ i + 1 + f) : se g n f (i + 1) = some e := by
  obtain ⟨h1, h2, h3, h4, h5⟩ := strModel_some h
  have := se_of (n := n) (by omega) h3 h4 h5 f (i + 1) (by omega) (by omega) (by rw [bs_at]) (by omega)
  rw [this]; congr 1; omega

theorem se_some {g : Nat → Int} {n : Nat} : ∀ {f p e : Nat}, se g n f p = some e → p < e ∧ e ≤ n ∧ g (e - 1) = 34
  | 0, p, e, h => by simp [se] at h
  | f + 1, p, e, h => by
    unfold se at h
    by_cases a : n ≤ p
    · rw [if_pos a] at h; cases h
    · rw [if_neg a] at h
      by_cases b : g p = 34
      · rw [if_pos b] at h
        have h' : p + 1 = e := by simpa using h
        subst h'
        exact ⟨by omega, by omega, by simpa using b⟩
      · rw [if_neg b] at h
        by_cases c : g p = 92
        · rw [if_pos c] at h
          obtain ⟨h1, h2, h3⟩ := se_some h
          exact ⟨by omega, h2, h3⟩
        · rw [if_neg c] at h
          obtain ⟨h1, h2, h3⟩ := se_some h
          exact ⟨by omega, h2, h3⟩

/-- stringEnd reads nothing from its answer on, and goes along with a shift of the text; more fuel does no harm. -/
theorem se_shift {g g' : Nat → Int} {n n' s : Nat} : ∀ {f p e f' : Nat}, se g n f (s + p) = some e → f ≤ f' → e ≤ s + n' → (∀ t, s + t < e → g' t = g (s + t)) → se g' n' f' p = some (e - s)
  | 0, p, e, f', h, _, _, _ => by simp [se] at h
  | f + 1, p, e, f', h, hf, hn, hg => by
    obtain ⟨f2, rfl⟩ : ∃ k, f' = k + 1 := ⟨f' - 1, by omega⟩
    have hb := se_some h
    unfold se at h ⊢
    have hgp := hg p hb.1
    rw [if_neg (by omega), hgp]
    by_cases a : n ≤ s + p
    · rw [if_pos a] at h; cases h
    · rw [if_neg a] at h
      by_cases b : g (s + p) = 34
      · rw [if_pos b] at h ⊢
        have h' : s + p + 1 = e := by simpa using h
        subst h'
        congr 1; omega
      · rw [if_neg b] at h ⊢
        by_cases c : g (s + p) = 92
        · rw [if_pos c] at h ⊢
          exact se_shift (p := p + 2) (by simpa [Nat.add_assoc] using h) (by omega) hn hg
        · rw [if_neg c] at h ⊢
          exact se_shift (p := p + 1) (by simpa [Nat.add_assoc] using h) (by omega) hn hg

theorem se_hit {g : Nat → Int} {n f p e : Nat} (h : se g n f p = some e) (c : g p = 34) : e = p + 1 := by
  have hb := se_some h
  cases f with
  | zero => simp [se] at h
  | succ f => unfold se at h; rw [if_neg (by omega), if_pos c] at h; simpa using h.symm
theorem se_esc {g : Nat → Int} {n f p e : Nat} (h : se g n f p = some e) (c : g p ≠ 34) (d : g p = 92) : ∃ f', se g n f' (p + 2) = some e := by
  have hb := se_some h
  cases f with
  | zero => simp [se] at h
  | succ f => unfold se at h; rw [if_neg (by omega), if_neg c, if_pos d] at h; exact ⟨f, h⟩
theorem se_plain {g : Nat → Int} {n f p e : Nat} (h : se g n f p = some e) (c : g p ≠ 34) (d : g p ≠ 92) : ∃ f', se g n f' (p + 1) = some e := by
  have hb := se_some h
  cases f with
  | zero => simp [se] at h
  | succ f => unfold se at h; rw [if_neg (by omega), if_neg c, if_neg d] at h; exact ⟨f, h⟩

theorem se_fuel {g : Nat → Int} {n : Nat} : ∀ {f f' p : Nat}, n ≤ p + f → n ≤ p + f' → se g n f p = se g n f' p
  | 0, f', p, h, h' => by
    cases f' with
    | zero => rfl
    | succ f2 => unfold se; rw [if_pos (by omega)]
  | f + 1, 0, p, h, h' => by unfold se; rw [if_pos (by omega)]
  | f + 1, f2 + 1, p, h, h' => by
    unfold se
    by_cases a : n ≤ p
    · rw [if_pos a, if_pos a]
    · rw [if_neg a, if_neg a]
      by_cases b : g p = 34
      · rw [if_pos b, if_pos b]
      · rw [if_neg b, if_neg b]
        by_cases c : g p = 92
        · rw [if_pos c, if_pos c]
          exact se_fuel (by omega) (by omega)
        · rw [if_neg c, if_neg c]
          exact se_fuel (by omega) (by omega)

/-! ### A payload, quoted -/

/-- The payload's bytes, a backslash ahead of each quote and each backslash. -/
def esc : List Int → List Int
  | [] => []
  | c :: l => if c = 34 ∨ c = 92 then 92 :: c :: esc l else c :: esc l

theorem esc_append : ∀ (a b : List Int), esc (a ++ b) = esc a ++ esc b
  | [], b => rfl
  | c :: a, b => by
    by_cases h : c = 34 ∨ c = 92 <;> simp [esc, h, esc_append a b]

theorem esc_length : ∀ (a : List Int), (esc a).length ≤ 2 * a.length
  | [] => by simp [esc]
  | c :: a => by
    have := esc_length a
    by_cases h : c = 34 ∨ c = 92 <;> simp [esc, h] <;> omega

theorem getD_mid (A B : List Int) (c : Int) : (A ++ c :: B).getD A.length 0 = c := by simp [List.getD]

theorem se_esc_list : ∀ (pl A S : List Int) (f : Nat), pl.length < f →
    se (fun j => (A ++ (esc pl ++ 34 :: S)).getD j 0) (A ++ (esc pl ++ 34 :: S)).length f A.length = some (A.length + (esc pl).length + 1)
  | [], A, S, f, hf => by
    obtain ⟨m, rfl⟩ : ∃ m, f = m + 1 := ⟨f - 1, by simp at hf; omega⟩
    unfold se
    have h1 : ¬ (A ++ (esc [] ++ 34 :: S)).length ≤ A.length := by simp [esc]
    have h2 : (A ++ (esc [] ++ 34 :: S)).getD A.length 0 = 34 := getD_mid A S 34
    rw [if_neg h1, if_pos h2]
    simp [esc]
  | c :: pl, A, S, f, hf => by
    obtain ⟨m, rfl⟩ : ∃ m, f = m + 1 := ⟨f - 1, by simp at hf; omega⟩
    have hm : pl.length < m := by simp at hf; omega
    by_cases h : c = 34 ∨ c = 92
    · have e : esc (c :: pl) = 92 :: c :: esc pl := by simp [esc, h]
      rw [e]
      have h1 : ¬ (A ++ ((92 :: c :: esc pl) ++ 34 :: S)).length ≤ A.length := by simp
      have h2 : (A ++ ((92 :: c :: esc pl) ++ 34 :: S)).getD A.length 0 = 92 := getD_mid A _ 92
      unfold se
      rw [if_neg h1, h2, if_neg (by decide), if_pos rfl]
      have ih := se_esc_list pl (A ++ [92, c]) S m hm
      simp at ih ⊢
      rw [ih]
      simp; omega
    · have e : esc (c :: pl) = c :: esc pl := by simp [esc, h]
      rw [e]
      have h1 : ¬ (A ++ ((c :: esc pl) ++ 34 :: S)).length ≤ A.length := by simp
      have h2 : (A ++ ((c :: esc pl) ++ 34 :: S)).getD A.length 0 = c := getD_mid A _ c
      unfold se
      rw [if_neg h1, h2, if_neg (fun x => h (.inl x)), if_neg (fun x => h (.inr x))]
      have ih := se_esc_list pl (A ++ [c]) S m hm
      simp at ih ⊢
      rw [ih]
      simp; omega

/-- THE LAW: stringEnd finds the quoted payload whole, whatever stands before and behind it. -/
theorem se_quoted (A pl S : List Int) :
    se (fun j => (A ++ 34 :: (esc pl ++ 34 :: S)).getD j 0) (A ++ 34 :: (esc pl ++ 34 :: S)).length (pl.length + 1) (A.length + 1) = some (A.length + (esc pl).length + 2) := by
  have h := se_esc_list pl (A ++ [34]) S (pl.length + 1) (by omega)
  simp at h ⊢
  rw [h]
  simp; omega

/-! ### containerModel: enough fuel is enough -/

theorem cm_some {g : Nat → Int} {n : Nat} : ∀ {f k inner : Nat} {r : Nat × Nat}, cm g n f k inner = some r → k < r.1 ∧ r.1 ≤ n ∧ 0 < r.2
  | 0, k, inner, r, h => by simp [cm] at h
  | f + 1, k, inner, r, h => by
    unfold cm at h
    by_cases a : n ≤ k
    · rw [if_pos a] at h; cases h
    · rw [if_neg a] at h
      by_cases b : g k = 34
      · rw [if_pos b] at h
        obtain ⟨e, h1, h2⟩ := Option.bind_eq_some_iff.mp h
        have := strModel_some h1
        have h3 := cm_some h2
        exact ⟨by omega, h3.2⟩
      · rw [if_neg b] at h
        by_cases c : g k = 91 ∨ g k = 123
        · rw [if_pos c] at h
          obtain ⟨e, h1, h2⟩ := Option.bind_eq_some_iff.mp h
          have h3 := cm_some h1
          have h4 := cm_some h2
          exact ⟨by omega, h4.2⟩
        · rw [if_neg c] at h
          by_cases d : g k = 93 ∨ g k = 125
          · rw [if_pos d] at h
            have h' : (k + 1, inner + 1) = r := by simpa using h
            subst h'
            exact ⟨by simp, by simp; omega, by simp⟩
          · rw [if_neg d] at h
            have h3 := cm_some h
            exact ⟨by omega, h3.2⟩

theorem cm_depth {g : Nat → Int} {n : Nat} : ∀ {f k inner : Nat} {r : Nat × Nat}, cm g n f k inner = some r → r.2 + k ≤ inner + r.1
  | 0, k, inner, r, h => by simp [cm] at h
  | f + 1, k, inner, r, h => by
    unfold cm at h
    by_cases a : n ≤ k
    · rw [if_pos a] at h; cases h
    · rw [if_neg a] at h
      by_cases b : g k = 34
      · rw [if_pos b] at h
        obtain ⟨e, h1, h2⟩ := Option.bind_eq_some_iff.mp h
        have := strModel_some h1
        have h3 := cm_depth h2
        omega
      · rw [if_neg b] at h
        by_cases c : g k = 91 ∨ g k = 123
        · rw [if_pos c] at h
          obtain ⟨e, h1, h2⟩ := Option.bind_eq_some_iff.mp h
          have h3 := cm_depth h1
          have h4 := cm_depth h2
          have h5 := cm_some h1
          have h6 := cm_some h2
          omega
        · rw [if_neg c] at h
          by_cases d : g k = 93 ∨ g k = 125
          · rw [if_pos d] at h
            have h' : (k + 1, inner + 1) = r := by simpa using h
            subst h'
            simp; omega
          · rw [if_neg d] at h
            have h3 := cm_depth h
            omega

theorem cm_fuel {g : Nat → Int} {n : Nat} : ∀ {f f' k inner : Nat}, n < k + f → n < k + f' → cm g n f k inner = cm g n f' k inner
  | 0, f', k, inner, h, h' => by
    cases f' with
    | zero => rfl
    | succ f2 => unfold cm; rw [if_pos (by omega)]
  | f + 1, 0, k, inner, h, h' => by unfold cm; rw [if_pos (by omega)]
  | f + 1, f2 + 1, k, inner, h, h' => by
    unfold cm
    by_cases a : n ≤ k
    · rw [if_pos a, if_pos a]
    · rw [if_neg a, if_neg a]
      by_cases b : g k = 34
      · rw [if_pos b, if_pos b]
        cases hs : strModel g n k with
        | none => rfl
        | some e =>
          have := strModel_some hs
          exact cm_fuel (by omega) (by omega)
      · rw [if_neg b, if_neg b]
        by_cases c : g k = 91 ∨ g k = 123
        · rw [if_pos c, if_pos c]
          have e1 : cm g n f (k + 1) 0 = cm g n f2 (k + 1) 0 := cm_fuel (by omega) (by omega)
          rw [e1]
          cases hs : cm g n f2 (k + 1) 0 with
          | none => rfl
          | some r =>
            have := cm_some hs
            exact cm_fuel (by omega) (by omega)
        · rw [if_neg c, if_neg c]
          by_cases d : g k = 93 ∨ g k = 125
          · rw [if_pos d, if_pos d]
          · rw [if_neg d, if_neg d]
            exact cm_fuel (by omega) (by omega)

/-- containerModel's loop at place k. -/
def cont (g : Nat → Int) (n k inner : Nat) : Option (Nat × Nat) := cm g n (n + 1 - k) k inner

theorem cont_off {g : Nat → Int} {n k inner : Nat} (h : n ≤ k) : cont g n k inner = none := by
  unfold cont
  cases hk : n + 1 - k with
  | zero => rfl
  | succ m => unfold cm; rw [if_pos h]
theorem cont_step {g : Nat → Int} {n k inner : Nat} (h : k < n) : cont g n k inner =
    if g k = 34 then (strModel g n k).bind fun e => cont g n e inner
    else if g k = 91 ∨ g k = 123 then (cont g n (k + 1) 0).bind fun r => cont g n r.1 (max inner r.2)
    else if g k = 93 ∨ g k = 125 then some (k + 1, inner + 1)
    else cont g n (k + 1) inner := by
  have e0 : n + 1 - k = (n - k) + 1 := by omega
  unfold cont
  rw [e0]
  conv => lhs; unfold cm
  rw [if_neg (by omega)]
  by_cases b : g k = 34
  · rw [if_pos b, if_pos b]
    cases hs : strModel g n k with
    | none => rfl
    | some e =>
      have := strModel_some hs
      exact cm_fuel (by omega) (by omega)
  · rw [if_neg b, if_neg b]
    by_cases c : g k = 91 ∨ g k = 123
    · rw [if_pos c, if_pos c]
      have e1 : cm g n (n - k) (k + 1) 0 = cm g n (n + 1 - (k + 1)) (k + 1) 0 := cm_fuel (by omega) (by omega)
      rw [e1]
      cases hs : cm g n (n + 1 - (k + 1)) (k + 1) 0 with
      | none => rfl
      | some r =>
        have := cm_some hs
        exact cm_fuel (by omega) (by omega)
    · rw [if_neg c, if_neg c]
      by_cases d : g k = 93 ∨ g k = 125
      · rw [if_pos d, if_pos d]
      · rw [if_neg d, if_neg d]
        exact cm_fuel (by omega) (by omega)
theorem cont_some {g : Nat → Int} {n k inner : Nat} {r : Nat × Nat} (h : cont g n k inner = some r) : k < r.1 ∧ r.1 ≤ n ∧ 0 < r.2 := cm_some h

theorem cont_depth {g : Nat → Int} {n k inner : Nat} {r : Nat × Nat} (h : cont g n k inner = some r) : r.2 + k ≤ inner + r.1 := cm_depth h
theorem cont_quote {g : Nat → Int} {n k inner : Nat} (h : k < n) (c : g k = 34) : cont g n k inner = (strModel g n k).bind fun e => cont g n e inner := by
  rw [cont_step h, if_pos c]
theorem cont_open {g : Nat → Int} {n k inner : Nat} (h : k < n) (c : g k = 91 ∨ g k = 123) : cont g n k inner = (cont g n (k + 1) 0).bind fun r => cont g n r.1 (max inner r.2) := by
  rw [cont_step h, if_neg (by omega), if_pos c]
theorem cont_close {g : Nat → Int} {n k inner : Nat} (h : k < n) (c : g k = 93 ∨ g k = 125) : cont g n k inner = some (k + 1, inner + 1) := by
  rw [cont_step h, if_neg (by omega), if_neg (by omega), if_pos c]
theorem cont_other {g : Nat → Int} {n k inner : Nat} (h : k < n) (c0 : g k ≠ 34) (c1 : g k ≠ 91) (c2 : g k ≠ 123) (c3 : g k ≠ 93) (c4 : g k ≠ 125) : cont g n k inner = cont g n (k + 1) inner := by
  rw [cont_step h, if_neg c0, if_neg (by omega), if_neg (by omega)]

/-! ### scan's loop against containerModel -/

/-- scan's loop at place k, o containers open around this one (itself counted in 'o + 1'), the depth so far 'max d (o + 1 + inner)', goes to where containerModel ends, and on from there. -/
theorem sc_cm {g : Nat → Int} {n : Nat} : ∀ {f k inner : Nat} {r : Nat × Nat}, cm g n f k inner = some r → ∀ (o d : Nat),
    ∃ f', ∀ f2, f' ≤ f2 → ∃ f3, f2 - f' ≤ f3 ∧ sc g n f2 k (o + 1) (max d (o + 1 + inner)) = if o = 0 then some (r.1, max d (o + r.2)) else sc g n f3 r.1 o (max d (o + r.2))
  | 0, k, inner, r, h, o, d => by simp [cm] at h
  | f + 1, k, inner, r, h, o, d => by
    unfold cm at h
    by_cases a : n ≤ k
    · rw [if_pos a] at h; cases h
    · rw [if_neg a] at h
      by_cases b : g k = 34
      · rw [if_pos b] at h
        obtain ⟨e, h1, h2⟩ := Option.bind_eq_some_iff.mp h
        obtain ⟨f', H⟩ := sc_cm h2 o d
        have hse := se_strModel (f := n) h1 (by omega)
        refine ⟨f' + 1, fun f2 hf2 => ?_⟩
        obtain ⟨m, rfl⟩ : ∃ m, f2 = m + 1 := ⟨f2 - 1, by omega⟩
        obtain ⟨f3, hf3, H3⟩ := H m (by omega)
        refine ⟨f3, by omega, ?_⟩
        conv => lhs; unfold sc
        rw [if_neg a, if_pos b, hse]
        exact H3
      · rw [if_neg b] at h
        by_cases c : g k = 91 ∨ g k = 123
        · rw [if_pos c] at h
          obtain ⟨r1, h1, h2⟩ := Option.bind_eq_some_iff.mp h
          obtain ⟨f1, H1⟩ := sc_cm h1 (o + 1) (max d (o + 1 + inner))
          obtain ⟨f', H⟩ := sc_cm h2 o d
          refine ⟨f1 + f' + 1, fun f2 hf2 => ?_⟩
          obtain ⟨m, rfl⟩ : ∃ m, f2 = m + 1 := ⟨f2 - 1, by omega⟩
          obtain ⟨f3, hf3, H3⟩ := H1 m (by omega)
          obtain ⟨f4, hf4, H4⟩ := H f3 (by omega)
          refine ⟨f4, by omega, ?_⟩
          conv => lhs; unfold sc
          rw [if_neg a, if_neg b, if_pos c]
          rw [if_neg (by omega)] at H3
          have e1 : max (max d (o + 1 + inner)) (o + 1 + r1.2) = max d (o + 1 + max inner r1.2) := by omega
          rw [e1, H4] at H3
          exact H3
        · rw [if_neg c] at h
          by_cases c2 : g k = 93 ∨ g k = 125
          · rw [if_pos c2] at h
            have h' : (k + 1, inner + 1) = r := by simpa using h
            subst h'
            refine ⟨1, fun f2 hf2 => ?_⟩
            obtain ⟨m, rfl⟩ : ∃ m, f2 = m + 1 := ⟨f2 - 1, by omega⟩
            refine ⟨m, by omega, ?_⟩
            conv => lhs; unfold sc
            rw [if_neg a, if_neg b, if_neg c, if_pos c2]
            by_cases z : o = 0
            · subst z; simp; omega
            · rw [if_neg (by omega), if_neg z]
              have e1 : max d (o + 1 + inner) = max d (o + (inner + 1)) := by omega
              simp [e1]
          · rw [if_neg c2] at h
            obtain ⟨f', H⟩ := sc_cm h o d
            refine ⟨f' + 1, fun f2 hf2 => ?_⟩
            obtain ⟨m, rfl⟩ : ∃ m, f2 = m + 1 := ⟨f2 - 1, by omega⟩
            obtain ⟨f3, hf3, H3⟩ := H m (by omega)
            refine ⟨f3, by omega, ?_⟩
            conv => lhs; unfold sc
            rw [if_neg a, if_neg b, if_neg c, if_neg c2]
            exact H3

/-- THE LAW: where containerModel reads the container at place j, scan's loop reads it alike. -/
theorem sc_cont {g : Nat → Int} {n j : Nat} {r : Nat × Nat} (hj : j < n) (ho : g j = 91 ∨ g j = 123) (h : cont g n (j + 1) 0 = some r) : ∃ f, sc g n f j 0 0 = some r := by
  obtain ⟨f', H⟩ := sc_cm h 0 0
  obtain ⟨f3, _, H3⟩ := H f' (Nat.le_refl _)
  refine ⟨f' + 1, ?_⟩
  unfold sc
  have nb : ¬ g j = 34 := by omega
  rw [if_neg (by omega), if_neg nb, if_pos ho]
  simp at H3
  simpa using H3

theorem sc_some {g : Nat → Int} {n : Nat} : ∀ {f p o d : Nat} {r : Nat × Nat}, sc g n f p o d = some r → p < r.1 ∧ r.1 ≤ n
  | 0, p, o, d, r, h => by simp [sc] at h
  | f + 1, p, o, d, r, h => by
    unfold sc at h
    by_cases a : n ≤ p
    · rw [if_pos a] at h; cases h
    · rw [if_neg a] at h
      by_cases b : g p = 34
      · rw [if_pos b] at h
        obtain ⟨e, h1, h2⟩ := Option.bind_eq_some_iff.mp h
        have := se_some h1
        have h3 := sc_some h2
        exact ⟨by omega, h3.2⟩
      · rw [if_neg b] at h
        by_cases c : g p = 91 ∨ g p = 123
        · rw [if_pos c] at h
          have h3 := sc_some h
          exact ⟨by omega, h3.2⟩
        · rw [if_neg c] at h
          by_cases c2 : g p = 93 ∨ g p = 125
          · rw [if_pos c2] at h
            by_cases z : o = 1
            · rw [if_pos z] at h
              have h' : (p + 1, d) = r := by simpa using h
              subst h'
              exact ⟨by simp, by simp; omega⟩
            · rw [if_neg z] at h
              have h3 := sc_some h
              exact ⟨by omega, h3.2⟩
          · rw [if_neg c2] at h
            have h3 := sc_some h
            exact ⟨by omega, h3.2⟩

theorem sc_succ {g : Nat → Int} {n f p o d : Nat} {r : Nat × Nat} (h : sc g n f p o d = some r) : ∃ f', f = f' + 1 ∧ p < n := by
  cases f with
  | zero => simp [sc] at h
  | succ f => exact ⟨f, rfl, by have := sc_some h; omega⟩
theorem sc_quote {g : Nat → Int} {n f p o d : Nat} {r : Nat × Nat} (h : sc g n f p o d = some r) (c : g p = 34) : ∃ e f', se g n n (p + 1) = some e ∧ sc g n f' e o d = some r := by
  obtain ⟨f', rfl, hp⟩ := sc_succ h
  unfold sc at h
  rw [if_neg (by omega), if_pos c] at h
  obtain ⟨e, h1, h2⟩ := Option.bind_eq_some_iff.mp h
  exact ⟨e, f', h1, h2⟩
theorem sc_open {g : Nat → Int} {n f p o d : Nat} {r : Nat × Nat} (h : sc g n f p o d = some r) (c : g p = 91 ∨ g p = 123) : ∃ f', sc g n f' (p + 1) (o + 1) (max d (o + 1)) = some r := by
  obtain ⟨f', rfl, hp⟩ := sc_succ h
  unfold sc at h
  rw [if_neg (by omega), if_neg (by omega), if_pos c] at h
  exact ⟨f', h⟩
theorem sc_last {g : Nat → Int} {n f p d : Nat} {r : Nat × Nat} (h : sc g n f p 1 d = some r) (c : g p = 93 ∨ g p = 125) : r = (p + 1, d) := by
  obtain ⟨f', rfl, hp⟩ := sc_succ h
  unfold sc at h
  rw [if_neg (by omega), if_neg (by omega), if_neg (by omega), if_pos c, if_pos rfl] at h
  exact (Option.some.inj h).symm
theorem sc_close {g : Nat → Int} {n f p o d : Nat} {r : Nat × Nat} (h : sc g n f p o d = some r) (c : g p = 93 ∨ g p = 125) (ho : o ≠ 1) : ∃ f', sc g n f' (p + 1) (o - 1) d = some r := by
  obtain ⟨f', rfl, hp⟩ := sc_succ h
  unfold sc at h
  rw [if_neg (by omega), if_neg (by omega), if_neg (by omega), if_pos c, if_neg ho] at h
  exact ⟨f', h⟩
theorem sc_other {g : Nat → Int} {n f p o d : Nat} {r : Nat × Nat} (h : sc g n f p o d = some r) (c0 : g p ≠ 34) (c1 : g p ≠ 91) (c2 : g p ≠ 123) (c3 : g p ≠ 93) (c4 : g p ≠ 125) : ∃ f', sc g n f' (p + 1) o d = some r := by
  obtain ⟨f', rfl, hp⟩ := sc_succ h
  unfold sc at h
  rw [if_neg (by omega), if_neg c0, if_neg (by omega), if_neg (by omega)] at h
  exact ⟨f', h⟩

/-! ### numbers, true, false, null -/
/-- JSON white space. -/
def spB (c : Int) : Bool := c == 32 || c == 9 || c == 10 || c == 13
/-- What ends a number, true, false or null. -/
def endB (c : Int) : Bool := spB c || c == 44 || c == 93 || c == 125
/-- e is the first scalar delimiter at or behind i, or the text's end. -/
def Scal (g : Nat → Int) (n i e : Nat) : Prop := i ≤ e ∧ e ≤ n ∧ (∀ t, i ≤ t → t < e → endB (g t) = false) ∧ (e = n ∨ endB (g e) = true)

/-- scan's loop reads nothing from its answer on, and goes along with a shift of the text. -/
theorem sc_shift {g g' : Nat → Int} {n n' s : Nat} : ∀ {f p o d : Nat} {r : Nat × Nat}, sc g n f (s + p) o d = some r → r.1 = s + n' → (∀ t, s + t < r.1 → g' t = g (s + t)) → sc g' n' f p o d = some (r.1 - s, r.2)
  | 0, p, o, d, r, h, _, _ => by simp [sc] at h
  | f + 1, p, o, d, r, h, hn, hg => by
    have hb := sc_some h
    unfold sc at h ⊢
    have hgp := hg p hb.1
    rw [if_neg (by omega), hgp]
    by_cases a : n ≤ s + p
    · rw [if_pos a] at h; cases h
    · rw [if_neg a] at h
      by_cases b : g (s + p) = 34
      · rw [if_pos b] at h ⊢
        obtain ⟨e, h1, h2⟩ := Option.bind_eq_some_iff.mp h
        have he := se_some h1
        have he2 := sc_some h2
        have h3 : se g n n (s + (p + 1)) = some e := by simpa [Nat.add_assoc] using h1
        have hse : se g' n' (n + n') (p + 1) = some (e - s) := se_shift h3 (by omega) (by omega) (fun t ht => hg t (by omega))
        have hse' : se g' n' n' (p + 1) = some (e - s) := by rw [← hse]; exact se_fuel (by omega) (by omega)
        rw [hse']
        show sc g' n' f (e - s) o d = _
        exact sc_shift (by rw [show s + (e - s) = e from by omega]; exact h2) hn hg
      · rw [if_neg b] at h ⊢
        by_cases c : g (s + p) = 91 ∨ g (s + p) = 123
        · rw [if_pos c] at h ⊢
          exact sc_shift (by simpa [Nat.add_assoc] using h) hn hg
        · rw [if_neg c] at h ⊢
          by_cases c2 : g (s + p) = 93 ∨ g (s + p) = 125
          · rw [if_pos c2] at h ⊢
            by_cases z : o = 1
            · rw [if_pos z] at h ⊢
              have h' : (s + p + 1, d) = r := by simpa using h
              subst h'
              simp; omega
            · rw [if_neg z] at h ⊢
              exact sc_shift (by simpa [Nat.add_assoc] using h) hn hg
          · rw [if_neg c2] at h ⊢
            exact sc_shift (by simpa [Nat.add_assoc] using h) hn hg

end Go.Proofs.Qxb6603378a.Plain
