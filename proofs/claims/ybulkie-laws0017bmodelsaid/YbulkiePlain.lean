/-
  THE PLAIN PART OF LawS0017BModel: finite automata with empty moves, sets of states as bit masks. No Go in sight.
-/
namespace Go.Proofs.Ybulkie.Plain

/-! ### Lists and numbers -/

theorem or_mono {a b c d : Prop} (f : a → c) (g : b → d) (h : a ∨ b) : c ∨ d := by
  rcases h with h | h
  · exact Or.inl (f h)
  · exact Or.inr (g h)

theorem pw_mono {α : Type} {r s : α → α → Prop} (h : ∀ a b, r a b → s a b) : ∀ {l : List α}, l.Pairwise r → l.Pairwise s
  | [], _ => List.Pairwise.nil
  | a :: l, hp => by
    rw [List.pairwise_cons] at hp ⊢
    exact ⟨fun b hb => h a b (hp.1 b hb), pw_mono h hp.2⟩

theorem countP_le_of {α : Type} (p r : α → Bool) : ∀ (l : List α), (∀ x ∈ l, p x = true → r x = true) → l.countP p ≤ l.countP r
  | [], _ => Nat.le_refl _
  | x :: l, h => by
    have ih := countP_le_of p r l (fun y hy => h y (List.mem_cons_of_mem _ hy))
    have hx := h x (List.mem_cons_self ..)
    rw [List.countP_cons, List.countP_cons]
    cases hp : p x with
    | true => rw [hx hp]; simp; exact ih
    | false => simp; omega

theorem countP_lt_of {α : Type} (p r : α → Bool) : ∀ (l : List α), (∀ x ∈ l, p x = true → r x = true) → (∃ x ∈ l, p x = false ∧ r x = true) → l.countP p < l.countP r
  | [], _, h => by obtain ⟨x, hx, _⟩ := h; cases hx
  | x :: l, h, hex => by
    have hl := fun y hy => h y (List.mem_cons_of_mem x hy)
    have ih := countP_le_of p r l hl
    have hx := h x (List.mem_cons_self ..)
    rw [List.countP_cons, List.countP_cons]
    by_cases hc : p x = false ∧ r x = true
    · rw [hc.1, hc.2]; simp; omega
    · obtain ⟨y, hy, hy'⟩ := hex
      rcases List.mem_cons.1 hy with rfl | hy
      · exact absurd hy' hc
      · have ih2 := countP_lt_of p r l hl ⟨y, hy, hy'⟩
        cases hp : p x with
        | true => rw [hx hp]; simp; exact ih2
        | false => simp; omega

theorem nodup_le : ∀ (n : Nat) (l : List Nat), l.Nodup → (∀ x ∈ l, x < n) → l.length ≤ n
  | 0, l, _, h => by
    cases l with
    | nil => simp
    | cons x l => exact absurd (h x (List.mem_cons_self ..)) (by omega)
  | n + 1, l, hd, h => by
    have h1 : (l.erase n).length ≤ n := nodup_le n (l.erase n) (hd.erase n) (fun x hx => by
      have hxl := List.mem_of_mem_erase hx
      have hne : x ≠ n := fun e => by subst e; exact (hd.not_mem_erase hx)
      have := h x hxl
      omega)
    by_cases hm : n ∈ l
    · rw [List.length_erase_of_mem hm] at h1; omega
    · rw [List.erase_of_not_mem hm] at h1; omega

theorem testBit_bit (m t q : Nat) : (m ||| 2 ^ t).testBit q = (m.testBit q || decide (q = t)) := by
  rw [Nat.testBit_or, Nat.testBit_two_pow]
  congr 1
  by_cases h : t = q
  · simp [h]
  · have : ¬ q = t := fun e => h e.symm
    simp [h, this]

theorem or_bit_lt {m t n : Nat} (hm : m < 2 ^ n) (ht : t < n) : m ||| 2 ^ t < 2 ^ n := Nat.or_lt_two_pow hm (Nat.pow_lt_pow_right (by omega) ht)

theorem lt_of_testBit {m n q : Nat} (hm : m < 2 ^ n) (h : m.testBit q = true) : q < n := by
  rcases Nat.lt_or_ge q n with hq | hq
  · exact hq
  · rw [Nat.testBit_lt_two_pow (Nat.lt_of_lt_of_le hm (Nat.pow_le_pow_right (by omega) hq))] at h
    cases h

/-! ### Sets -/

/-- The states of a set, in order. -/
def elems (n m : Nat) : List Nat := (List.range n).filter fun q => m.testBit q

theorem mem_elems {n m q : Nat} : q ∈ elems n m ↔ q < n ∧ m.testBit q = true := by simp [elems]

theorem elems_sorted (n m : Nat) : (elems n m).Pairwise (· < ·) := (List.pairwise_lt_range (n := n)).filter _

theorem elems_inj {n a b : Nat} (ha : a < 2 ^ n) (hb : b < 2 ^ n) (h : elems n a = elems n b) : a = b := by
  apply Nat.eq_of_testBit_eq
  intro q
  have h1 : q ∈ elems n a ↔ q ∈ elems n b := by rw [h]
  rw [mem_elems, mem_elems] at h1
  cases ta : a.testBit q <;> cases tb : b.testBit q
  · rfl
  · exact absurd (h1.2 ⟨lt_of_testBit hb tb, tb⟩).2 (by rw [ta]; decide)
  · exact absurd (h1.1 ⟨lt_of_testBit ha ta, ta⟩).2 (by rw [tb]; decide)
  · rfl

/-- Two lists in strict order with the same members are one. -/
theorem sorted_ext : ∀ (a b : List Nat), a.Pairwise (· < ·) → b.Pairwise (· < ·) → (∀ x, x ∈ a ↔ x ∈ b) → a = b
  | [], [], _, _, _ => rfl
  | [], y :: b, _, _, h => absurd ((h y).2 (List.mem_cons_self ..)) (by simp)
  | x :: a, [], _, _, h => absurd ((h x).1 (List.mem_cons_self ..)) (by simp)
  | x :: a, y :: b, ha, hb, h => by
    rw [List.pairwise_cons] at ha hb
    have hxy : x = y := by
      rcases List.mem_cons.1 ((h x).1 (List.mem_cons_self ..)) with e | hx
      · exact e
      · rcases List.mem_cons.1 ((h y).2 (List.mem_cons_self ..)) with e | hy
        · exact e.symm
        · have := hb.1 x hx; have := ha.1 y hy; omega
    subst hxy
    have : a = b := sorted_ext a b ha.2 hb.2 (fun z => by
      constructor
      · intro hz
        rcases List.mem_cons.1 ((h z).1 (List.mem_cons_of_mem _ hz)) with e | hz'
        · have := ha.1 z hz; omega
        · exact hz'
      · intro hz
        rcases List.mem_cons.1 ((h z).2 (List.mem_cons_of_mem _ hz)) with e | hz'
        · have := hb.1 z hz; omega
        · exact hz')
    rw [this]

/-- The set that a list of states makes. -/
def maskOf (l : List Nat) : Nat := l.foldl (fun m q => m ||| 2 ^ q) 0

theorem foldl_mask (l : List Nat) : ∀ (m q : Nat), (l.foldl (fun m q => m ||| 2 ^ q) m).testBit q = true ↔ m.testBit q = true ∨ q ∈ l := by
  induction l with
  | nil => intro m q; simp
  | cons x l ih =>
    intro m q
    rw [List.foldl_cons, ih, testBit_bit]
    simp only [Bool.or_eq_true, decide_eq_true_eq, List.mem_cons]
    constructor
    · rintro ((h | h) | h)
      · exact Or.inl h
      · exact Or.inr (Or.inl h)
      · exact Or.inr (Or.inr h)
    · rintro (h | h | h)
      · exact Or.inl (Or.inl h)
      · exact Or.inl (Or.inr h)
      · exact Or.inr h

theorem mem_maskOf {l : List Nat} {q : Nat} : (maskOf l).testBit q = true ↔ q ∈ l := by
  unfold maskOf
  rw [foldl_mask]
  simp

theorem foldl_mask_lt (n : Nat) (l : List Nat) : ∀ m, m < 2 ^ n → (∀ q ∈ l, q < n) → l.foldl (fun m q => m ||| 2 ^ q) m < 2 ^ n := by
  induction l with
  | nil => intro m hm _; exact hm
  | cons x l ih =>
    intro m hm h
    exact ih _ (or_bit_lt hm (h x (List.mem_cons_self ..))) (fun q hq => h q (List.mem_cons_of_mem _ hq))

theorem maskOf_lt {n : Nat} {l : List Nat} (h : ∀ q ∈ l, q < n) : maskOf l < 2 ^ n := foldl_mask_lt n l 0 (Nat.two_pow_pos n) h

theorem mask_ext {a b : Nat} (h : ∀ q, a.testBit q = true ↔ b.testBit q = true) : a = b := by
  apply Nat.eq_of_testBit_eq
  intro q
  have := h q
  cases ha : a.testBit q <;> cases hb : b.testBit q <;> simp_all

theorem maskOf_elems {n m : Nat} (hm : m < 2 ^ n) : maskOf (elems n m) = m :=
  mask_ext fun q => by rw [mem_maskOf, mem_elems]; exact ⟨fun h => h.2, fun h => ⟨lt_of_testBit hm h, h⟩⟩

theorem eq_zero_iff {m : Nat} : m = 0 ↔ ∀ q, m.testBit q = false := by
  constructor
  · rintro rfl q; simp
  · intro h; apply Nat.eq_of_testBit_eq; intro q; rw [h q]; simp

/-! ### Empty moves. An edge: (from, to, sign); the sign 0: it reads nothing; the sign s + 1: it reads the symbol s. -/

def Reach (E : List (Nat × Nat × Nat)) (m q : Nat) : Prop :=
  ∀ P : Nat → Prop, (∀ x, m.testBit x = true → P x) → (∀ f t, (f, t, 0) ∈ E → P f → P t) → P q

theorem Reach.base {E : List (Nat × Nat × Nat)} {m q : Nat} (h : m.testBit q = true) : Reach E m q := fun _ h1 _ => h1 q h
theorem Reach.move {E : List (Nat × Nat × Nat)} {m f t : Nat} (h : Reach E m f) (he : (f, t, 0) ∈ E) : Reach E m t := fun P h1 h2 => h2 f t he (h P h1 h2)

/-- A set that holds m, is closed, and is reached, is what is reached. -/
theorem reach_iff {E : List (Nat × Nat × Nat)} {m c : Nat} (h1 : ∀ q, m.testBit q = true → c.testBit q = true) (h2 : ∀ f t, (f, t, 0) ∈ E → c.testBit f = true → c.testBit t = true)
    (h3 : ∀ q, c.testBit q = true → Reach E m q) (q : Nat) : c.testBit q = true ↔ Reach E m q :=
  ⟨h3 q, fun h => h (fun x => c.testBit x = true) h1 h2⟩

/-! ### The model's own closing -/

def passStep (p : Nat × Bool) (e : Nat × Nat × Nat) : Nat × Bool :=
  if e.2.2 = 0 ∧ p.1.testBit e.1 = true ∧ p.1.testBit e.2.1 = false then (p.1 ||| 2 ^ e.2.1, true) else p

def pass (E : List (Nat × Nat × Nat)) (m : Nat) : Nat × Bool := E.foldl passStep (m, false)

def closeLoop (E : List (Nat × Nat × Nat)) : Nat → Nat → Nat
  | 0, m => m
  | n + 1, m => if (pass E m).2 = true then closeLoop E n (pass E m).1 else (pass E m).1

def closeM (N : Nat) (E : List (Nat × Nat × Nat)) (m : Nat) : Nat := closeLoop E (N + 1) m

theorem passStep_sup (p : Nat × Bool) (e : Nat × Nat × Nat) (q : Nat) (h : p.1.testBit q = true) : (passStep p e).1.testBit q = true := by
  unfold passStep
  split
  · show (p.1 ||| 2 ^ e.2.1).testBit q = true
    rw [testBit_bit, h]; rfl
  · exact h

theorem fold_sup : ∀ (E : List (Nat × Nat × Nat)) (p : Nat × Bool) (q : Nat), p.1.testBit q = true → (E.foldl passStep p).1.testBit q = true
  | [], _, _, h => h
  | e :: E, p, q, h => fold_sup E (passStep p e) q (passStep_sup p e q h)

theorem fold_reach (m : Nat) (E0 : List (Nat × Nat × Nat)) : ∀ (E : List (Nat × Nat × Nat)) (p : Nat × Bool), (∀ e ∈ E, e ∈ E0) → (∀ q, p.1.testBit q = true → Reach E0 m q) → ∀ q, (E.foldl passStep p).1.testBit q = true → Reach E0 m q
  | [], _, _, h => h
  | e :: E, p, hE, h => by
    refine fold_reach m E0 E (passStep p e) (fun x hx => hE x (List.mem_cons_of_mem _ hx)) ?_
    intro q hq
    unfold passStep at hq
    split at hq
    · rename_i hc
      have hq' : (p.1 ||| 2 ^ e.2.1).testBit q = true := hq
      rw [testBit_bit] at hq'
      simp only [Bool.or_eq_true, decide_eq_true_eq] at hq'
      rcases hq' with hq' | hq'
      · exact h q hq'
      · subst hq'
        refine Reach.move (h _ hc.2.1) ?_
        have : e = (e.1, e.2.1, 0) := by rw [← hc.1]
        rw [← this]
        exact hE e (List.mem_cons_self ..)
    · exact h q hq

theorem fold_lt (n : Nat) : ∀ (E : List (Nat × Nat × Nat)) (p : Nat × Bool), (∀ e ∈ E, e.2.1 < n) → p.1 < 2 ^ n → (E.foldl passStep p).1 < 2 ^ n
  | [], _, _, h => h
  | e :: E, p, hE, h => by
    refine fold_lt n E (passStep p e) (fun x hx => hE x (List.mem_cons_of_mem _ hx)) ?_
    unfold passStep
    split
    · exact or_bit_lt h (hE e (List.mem_cons_self ..))
    · exact h

/-- A pass that says 'changed' where it began so, or has set a bit that was clear. -/
theorem fold_changed : ∀ (E : List (Nat × Nat × Nat)) (p : Nat × Bool), (E.foldl passStep p).2 = true → p.2 = true ∨ ∃ e ∈ E, p.1.testBit e.2.1 = false ∧ (E.foldl passStep p).1.testBit e.2.1 = true
  | [], _, h => Or.inl h
  | e :: E, p, h => by
    by_cases hc : e.2.2 = 0 ∧ p.1.testBit e.1 = true ∧ p.1.testBit e.2.1 = false
    · refine Or.inr ⟨e, List.mem_cons_self .., hc.2.2, ?_⟩
      rw [List.foldl_cons]
      refine fold_sup E _ _ ?_
      unfold passStep
      rw [if_pos hc]
      show (p.1 ||| 2 ^ e.2.1).testBit e.2.1 = true
      rw [testBit_bit]; simp
    · have hs : passStep p e = p := by unfold passStep; rw [if_neg hc]
      rw [List.foldl_cons, hs] at h
      rcases fold_changed E p h with h1 | ⟨x, hx, h2, h3⟩
      · exact Or.inl h1
      · exact Or.inr ⟨x, List.mem_cons_of_mem _ hx, h2, by rw [List.foldl_cons, hs]; exact h3⟩

theorem fold_true : ∀ (E : List (Nat × Nat × Nat)) (m : Nat), (E.foldl passStep (m, true)).2 = true
  | [], _ => rfl
  | e :: E, m => by
    rw [List.foldl_cons]
    have : (passStep (m, true) e) = ((passStep (m, true) e).1, true) := by unfold passStep; split <;> rfl
    rw [this]
    exact fold_true E _

/-- A pass that changes nothing leaves the set as it is, and shows it closed. -/
theorem fold_same : ∀ (E : List (Nat × Nat × Nat)) (m : Nat), (E.foldl passStep (m, false)).2 = false → (E.foldl passStep (m, false)).1 = m ∧ ∀ f t, (f, t, 0) ∈ E → m.testBit f = true → m.testBit t = true
  | [], m, _ => ⟨rfl, fun f t h => by cases h⟩
  | e :: E, m, h => by
    by_cases hc : e.2.2 = 0 ∧ m.testBit e.1 = true ∧ m.testBit e.2.1 = false
    · have hs : passStep (m, false) e = (m ||| 2 ^ e.2.1, true) := by unfold passStep; rw [if_pos hc]
      rw [List.foldl_cons, hs, fold_true] at h
      cases h
    · have hs : passStep (m, false) e = (m, false) := by unfold passStep; rw [if_neg hc]
      rw [List.foldl_cons, hs] at h
      obtain ⟨h1, h2⟩ := fold_same E m h
      refine ⟨by rw [List.foldl_cons, hs]; exact h1, fun f t hft hf => ?_⟩
      rcases List.mem_cons.1 hft with e1 | hft
      · subst e1
        cases ht : m.testBit t with
        | true => rfl
        | false => exact absurd ⟨rfl, hf, ht⟩ hc
      · exact h2 f t hft hf

theorem closeLoop_sup (E : List (Nat × Nat × Nat)) : ∀ (n m q : Nat), m.testBit q = true → (closeLoop E n m).testBit q = true
  | 0, _, _, h => h
  | n + 1, m, q, h => by
    have hp := fold_sup E (m, false) q h
    unfold closeLoop
    split
    · exact closeLoop_sup E n _ q hp
    · exact hp

theorem closeLoop_reach (E : List (Nat × Nat × Nat)) (m0 : Nat) : ∀ (n m : Nat), (∀ q, m.testBit q = true → Reach E m0 q) → ∀ q, (closeLoop E n m).testBit q = true → Reach E m0 q
  | 0, _, h => h
  | n + 1, m, h => by
    have hp := fold_reach m0 E E (m, false) (fun _ h => h) h
    unfold closeLoop
    split
    · exact closeLoop_reach E m0 n _ hp
    · exact hp

theorem closeLoop_lt (E : List (Nat × Nat × Nat)) (N : Nat) (hE : ∀ e ∈ E, e.2.1 < N) : ∀ (n m : Nat), m < 2 ^ N → closeLoop E n m < 2 ^ N
  | 0, _, h => h
  | n + 1, m, h => by
    have hp := fold_lt N E (m, false) hE h
    unfold closeLoop
    split
    · exact closeLoop_lt E N hE n _ hp
    · exact hp

def card (N m : Nat) : Nat := (List.range N).countP fun q => m.testBit q
theorem card_le (N m : Nat) : card N m ≤ N := by
  have := List.countP_le_length (p := fun q => m.testBit q) (l := List.range N)
  simpa [card] using this

theorem closeLoop_closed (E : List (Nat × Nat × Nat)) (N : Nat) (hE : ∀ e ∈ E, e.2.1 < N) : ∀ (n m : Nat), N < n + card N m → ∀ f t, (f, t, 0) ∈ E → (closeLoop E n m).testBit f = true → (closeLoop E n m).testBit t = true
  | 0, m, h => by have := card_le N m; omega
  | n + 1, m, h => by
    unfold closeLoop
    cases hc : (pass E m).2 with
    | false =>
      obtain ⟨h1, h2⟩ := fold_same E m hc
      simp only [Bool.false_eq_true, if_false]
      show ∀ f t, (f, t, 0) ∈ E → (pass E m).1.testBit f = true → (pass E m).1.testBit t = true
      rw [show (pass E m).1 = m from h1]
      exact h2
    | true =>
      simp only [if_true]
      refine closeLoop_closed E N hE n (pass E m).1 ?_
      rcases fold_changed E (m, false) hc with h1 | ⟨e, he, h2, h3⟩
      · cases h1
      · have hlt : card N m < card N (pass E m).1 := countP_lt_of _ _ _ (fun q _ hq => fold_sup E (m, false) q hq) ⟨e.2.1, by simpa using hE e he, h2, h3⟩
        omega

/-- THE MODEL's CLOSING: what the empty moves reach. -/
theorem closeM_iff {E : List (Nat × Nat × Nat)} {N : Nat} (hE : ∀ e ∈ E, e.2.1 < N) (m q : Nat) : (closeM N E m).testBit q = true ↔ Reach E m q :=
  reach_iff (closeLoop_sup E (N + 1) m) (closeLoop_closed E N hE (N + 1) m (by omega)) (closeLoop_reach E m (N + 1) m (fun _ h => Reach.base h)) q

theorem closeM_lt {E : List (Nat × Nat × Nat)} {N m : Nat} (hE : ∀ e ∈ E, e.2.1 < N) (hm : m < 2 ^ N) : closeM N E m < 2 ^ N := closeLoop_lt E N hE _ _ hm

end Go.Proofs.Ybulkie.Plain
