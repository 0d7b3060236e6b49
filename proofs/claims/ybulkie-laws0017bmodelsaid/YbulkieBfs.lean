/-
  THE PLAIN PART, SECOND HALF: the steps on a symbol, the rows, the order of discovery; and the implementation's own search for a closure.
-/
import Derived.Test.YbulkiePlain
namespace Go.Proofs.Ybulkie.Plain

/-! ### A step on a symbol -/

def stepMask (E : List (Nat × Nat × Nat)) (m sym : Nat) : Nat :=
  E.foldl (fun t e => if e.2.2 = sym + 1 ∧ m.testBit e.1 = true then t ||| 2 ^ e.2.1 else t) 0

theorem fold_step (m sym : Nat) : ∀ (E : List (Nat × Nat × Nat)) (t q : Nat), (E.foldl (fun t e => if e.2.2 = sym + 1 ∧ m.testBit e.1 = true then t ||| 2 ^ e.2.1 else t) t).testBit q = true ↔
    t.testBit q = true ∨ ∃ f, (f, q, sym + 1) ∈ E ∧ m.testBit f = true
  | [], t, q => by simp
  | e :: E, t, q => by
    rw [List.foldl_cons, fold_step m sym E]
    by_cases hc : e.2.2 = sym + 1 ∧ m.testBit e.1 = true
    · rw [if_pos hc, testBit_bit]
      simp only [Bool.or_eq_true, decide_eq_true_eq]
      have he : e = (e.1, e.2.1, sym + 1) := by rw [← hc.1]
      constructor
      · rintro ((h | h) | ⟨f, h, hf⟩)
        · exact Or.inl h
        · exact Or.inr ⟨e.1, by rw [h, ← he]; exact List.mem_cons_self .., hc.2⟩
        · exact Or.inr ⟨f, List.mem_cons_of_mem _ h, hf⟩
      · rintro (h | ⟨f, h, hf⟩)
        · exact Or.inl (Or.inl h)
        · rcases List.mem_cons.1 h with h | h
          · rw [he] at h
            simp only [Prod.mk.injEq] at h
            exact Or.inl (Or.inr h.2.1)
          · exact Or.inr ⟨f, h, hf⟩
    · rw [if_neg hc]
      constructor
      · rintro (h | ⟨f, h, hf⟩)
        · exact Or.inl h
        · exact Or.inr ⟨f, List.mem_cons_of_mem _ h, hf⟩
      · rintro (h | ⟨f, h, hf⟩)
        · exact Or.inl h
        · rcases List.mem_cons.1 h with h | h
          · subst h
            exact absurd ⟨rfl, hf⟩ hc
          · exact Or.inr ⟨f, h, hf⟩

theorem mem_stepMask {E : List (Nat × Nat × Nat)} {m sym q : Nat} : (stepMask E m sym).testBit q = true ↔ ∃ f, (f, q, sym + 1) ∈ E ∧ m.testBit f = true := by
  unfold stepMask
  rw [fold_step]
  simp

theorem stepMask_lt {E : List (Nat × Nat × Nat)} {N m sym : Nat} (hE : ∀ e ∈ E, e.2.1 < N) : stepMask E m sym < 2 ^ N := by
  apply Nat.lt_pow_two_of_testBit
  intro i hi
  cases h : (stepMask E m sym).testBit i with
  | false => rfl
  | true =>
    obtain ⟨f, hf, _⟩ := mem_stepMask.1 h
    have := hE _ hf
    simp at this
    omega

/-- The set that the set m moves to on the symbol; 0: it moves nowhere. -/
def stepC (N : Nat) (E : List (Nat × Nat × Nat)) (m sym : Nat) : Nat := closeM N E (stepMask E m sym)

theorem stepC_lt {E : List (Nat × Nat × Nat)} {N m sym : Nat} (hE : ∀ e ∈ E, e.2.1 < N) : stepC N E m sym < 2 ^ N := closeM_lt hE (stepMask_lt hE)

theorem closeM_zero {E : List (Nat × Nat × Nat)} {N m : Nat} (hE : ∀ e ∈ E, e.2.1 < N) : closeM N E m = 0 ↔ m = 0 := by
  constructor
  · intro h
    rw [eq_zero_iff] at h ⊢
    intro q
    cases hq : m.testBit q with
    | false => rfl
    | true => have := (closeM_iff hE m q).2 (Reach.base hq); rw [h q] at this; cases this
  · rintro rfl
    rw [eq_zero_iff]
    intro q
    cases hq : (closeM N E 0).testBit q with
    | false => rfl
    | true =>
      have := (closeM_iff hE 0 q).1 hq (fun _ => False) (fun x hx => by simp at hx) (fun _ _ _ h => h)
      exact this.elim

/-! ### Rows and the order of discovery -/

/-- One symbol of a row: the sets found so far, the row so far. -/
def proc (N : Nat) (E : List (Nat × Nat × Nat)) (m : Nat) (st : List Nat × List (Nat × Nat)) (sym : Nat) : List Nat × List (Nat × Nat) :=
  if stepC N E m sym = 0 then st else (if stepC N E m sym ∈ st.1 then st.1 else st.1 ++ [stepC N E m sym], st.2 ++ [(st.1.idxOf (stepC N E m sym), sym)])

def rowTo (N : Nat) (E : List (Nat × Nat × Nat)) (ord : List Nat) (m k : Nat) : List Nat × List (Nat × Nat) := (List.range k).foldl (proc N E m) (ord, [])

theorem rowTo_zero (N : Nat) (E : List (Nat × Nat × Nat)) (ord : List Nat) (m : Nat) : rowTo N E ord m 0 = (ord, []) := rfl
theorem rowTo_succ (N : Nat) (E : List (Nat × Nat × Nat)) (ord : List Nat) (m k : Nat) : rowTo N E ord m (k + 1) = proc N E m (rowTo N E ord m k) k := by
  simp [rowTo, List.range_succ]

def bfs (N K : Nat) (E : List (Nat × Nat × Nat)) (c0 : Nat) : Nat → List Nat × List (List (Nat × Nat))
  | 0 => ([c0], [])
  | i + 1 => ((rowTo N E (bfs N K E c0 i).1 ((bfs N K E c0 i).1.getD i 0) K).1, (bfs N K E c0 i).2 ++ [(rowTo N E (bfs N K E c0 i).1 ((bfs N K E c0 i).1.getD i 0) K).2])

/-- Sets found: no set twice, each a set of the N states. -/
def Good (N : Nat) (ord : List Nat) : Prop := ord.Nodup ∧ ∀ m ∈ ord, m < 2 ^ N

theorem Good.len {N : Nat} {ord : List Nat} (h : Good N ord) : ord.length ≤ 2 ^ N := nodup_le _ _ h.1 h.2

theorem proc_good {N : Nat} {E : List (Nat × Nat × Nat)} (hE : ∀ e ∈ E, e.2.1 < N) {m : Nat} {st : List Nat × List (Nat × Nat)} {sym : Nat} (h : Good N st.1) : Good N (proc N E m st sym).1 := by
  unfold proc
  split
  · exact h
  · show Good N (if stepC N E m sym ∈ st.1 then st.1 else st.1 ++ [stepC N E m sym])
    split
    · exact h
    · rename_i hn
      refine ⟨?_, ?_⟩
      · rw [List.nodup_append]
        refine ⟨h.1, by simp, ?_⟩
        intro a ha b hb
        simp at hb
        subst hb
        exact fun e => hn (e ▸ ha)
      · intro x hx
        rcases List.mem_append.1 hx with hx | hx
        · exact h.2 x hx
        · simp at hx; subst hx; exact stepC_lt hE

theorem rowTo_good {N : Nat} {E : List (Nat × Nat × Nat)} (hE : ∀ e ∈ E, e.2.1 < N) {ord : List Nat} {m : Nat} (h : Good N ord) : ∀ k, Good N (rowTo N E ord m k).1
  | 0 => h
  | k + 1 => by rw [rowTo_succ]; exact proc_good hE (rowTo_good hE h k)

theorem proc_prefix (N : Nat) (E : List (Nat × Nat × Nat)) (m : Nat) (st : List Nat × List (Nat × Nat)) (sym : Nat) : st.1 <+: (proc N E m st sym).1 := by
  unfold proc
  split
  · exact List.prefix_refl _
  · show st.1 <+: (if stepC N E m sym ∈ st.1 then st.1 else st.1 ++ [stepC N E m sym])
    split
    · exact List.prefix_refl _
    · exact List.prefix_append _ _

theorem rowTo_prefix (N : Nat) (E : List (Nat × Nat × Nat)) (ord : List Nat) (m : Nat) : ∀ k, ord <+: (rowTo N E ord m k).1
  | 0 => List.prefix_refl _
  | k + 1 => by rw [rowTo_succ]; exact (rowTo_prefix N E ord m k).trans (proc_prefix N E m _ k)

theorem bfs_good {N K : Nat} {E : List (Nat × Nat × Nat)} (hE : ∀ e ∈ E, e.2.1 < N) {c0 : Nat} (h0 : c0 < 2 ^ N) : ∀ i, Good N (bfs N K E c0 i).1
  | 0 => ⟨by simp [bfs], by intro m hm; simp [bfs] at hm; subst hm; exact h0⟩
  | i + 1 => rowTo_good hE (bfs_good hE h0 i) K

theorem bfs_prefix (N K : Nat) (E : List (Nat × Nat × Nat)) (c0 i : Nat) : (bfs N K E c0 i).1 <+: (bfs N K E c0 (i + 1)).1 := rowTo_prefix N E _ _ K

theorem bfs_rows (N K : Nat) (E : List (Nat × Nat × Nat)) (c0 : Nat) : ∀ i, (bfs N K E c0 i).2.length = i
  | 0 => rfl
  | i + 1 => by simp [bfs, bfs_rows N K E c0 i]

theorem bfs_pos (N K : Nat) (E : List (Nat × Nat × Nat)) (c0 : Nat) : ∀ i, 0 < (bfs N K E c0 i).1.length
  | 0 => by simp [bfs]
  | i + 1 => Nat.lt_of_lt_of_le (bfs_pos N K E c0 i) (bfs_prefix N K E c0 i).length_le

theorem bfs_prefix_le (N K : Nat) (E : List (Nat × Nat × Nat)) (c0 i : Nat) : ∀ d, (bfs N K E c0 i).1 <+: (bfs N K E c0 (i + d)).1
  | 0 => List.prefix_refl _
  | d + 1 => (bfs_prefix_le N K E c0 i d).trans (bfs_prefix N K E c0 (i + d))

/-- A set's number in the row: in range of what is known behind the symbol. -/
theorem proc_row_len (N : Nat) (E : List (Nat × Nat × Nat)) (m : Nat) (st : List Nat × List (Nat × Nat)) (sym : Nat) : (proc N E m st sym).2.length ≤ st.2.length + 1 := by
  unfold proc
  split
  · omega
  · simp

theorem rowTo_row_len (N : Nat) (E : List (Nat × Nat × Nat)) (ord : List Nat) (m : Nat) : ∀ k, (rowTo N E ord m k).2.length ≤ k
  | 0 => by simp [rowTo]
  | k + 1 => by
    rw [rowTo_succ]
    have := proc_row_len N E m (rowTo N E ord m k) k
    have := rowTo_row_len N E ord m k
    omega

/-! ### The implementation's search -/

/-- The moves that lead out of a state, as the program keeps them: (to, sign). -/
def movesQ (E : List (Nat × Nat × Nat)) (q : Nat) : List (Nat × Nat) := (E.filter fun e => e.1 == q).map fun e => (e.2.1, e.2.2)

theorem mem_movesQ {E : List (Nat × Nat × Nat)} {q t s : Nat} : (t, s) ∈ movesQ E q ↔ (q, t, s) ∈ E := by
  simp only [movesQ, List.mem_map, List.mem_filter, beq_iff_eq, Prod.mk.injEq]
  constructor
  · rintro ⟨⟨f, t', s'⟩, ⟨h, h1⟩, h2, h3⟩
    simp at h1 h2 h3
    subst h1 h2 h3
    exact h
  · intro h
    exact ⟨(q, t, s), ⟨h, rfl⟩, rfl, rfl⟩

/-- In mid-search: M: the marked states; stk: those still to be walked from; rch: those walked from; of the last one of rch, q, the moves up to j are walked. -/
structure Search (N : Nat) (E : List (Nat × Nat × Nat)) (X M : Nat) (stk rch : List Nat) (part : Nat → Nat → Prop) : Prop where
  sub : ∀ q, M.testBit q = true → Reach E X q
  start : ∀ q, X.testBit q = true → M.testBit q = true
  mem : ∀ q, M.testBit q = true ↔ q ∈ stk ∨ q ∈ rch
  nodup : (stk ++ rch).Nodup
  closed : ∀ f ∈ rch, ∀ t, (f, t, 0) ∈ E → M.testBit t = true ∨ part f t
  lt : M < 2 ^ N

theorem Search.len {N : Nat} {E : List (Nat × Nat × Nat)} {X M : Nat} {stk rch : List Nat} {part : Nat → Nat → Prop} (h : Search N E X M stk rch part) : stk.length + rch.length ≤ N := by
  have := nodup_le N (stk ++ rch) h.nodup (fun x hx => lt_of_testBit h.lt ((h.mem x).2 (by simpa using hx)))
  simpa using this

/-- At the search's beginning: the states of X lie on the stack. -/
theorem Search.init {N : Nat} {E : List (Nat × Nat × Nat)} {X : Nat} (hX : X < 2 ^ N) : Search N E X X (elems N X) [] (fun _ _ => False) := by
  refine ⟨fun _ h => Reach.base h, fun _ h => h, fun q => ?_, ?_, fun f hf => ?_, hX⟩
  · rw [mem_elems]
    constructor
    · exact fun h => Or.inl ⟨lt_of_testBit hX h, h⟩
    · exact fun h => h.elim (fun h => h.2) (fun h => by cases h)
  · rw [List.append_nil]
    exact pw_mono (fun _ _ h => Nat.ne_of_lt h) (elems_sorted N X)
  · cases hf

/-- A state is taken off the stack: all its empty moves are still to be walked. -/
theorem Search.pop {N : Nat} {E : List (Nat × Nat × Nat)} {X M q : Nat} {stk rch : List Nat} (h : Search N E X M (stk ++ [q]) rch (fun _ _ => False)) :
    Search N E X M stk (rch ++ [q]) (fun f t => f = q ∧ (t, 0) ∈ movesQ E q) := by
  refine ⟨h.sub, h.start, fun x => ?_, ?_, fun f hf t he => ?_, h.lt⟩
  · rw [h.mem]
    simp only [List.mem_append, List.mem_cons, List.not_mem_nil, or_false]
    constructor
    · rintro ((h | h) | h)
      · exact Or.inl h
      · exact Or.inr (Or.inr h)
      · exact Or.inr (Or.inl h)
    · rintro (h | h | h)
      · exact Or.inl (Or.inl h)
      · exact Or.inr h
      · exact Or.inl (Or.inr h)
  · have := h.nodup
    rw [List.append_assoc] at this
    refine (List.Perm.nodup_iff ?_).1 this
    exact List.Perm.append_left stk (by simpa using (List.perm_append_comm (l₁ := [q]) (l₂ := rch)))
  · rcases List.mem_append.1 hf with hf | hf
    · rcases h.closed f hf t he with h1 | h1
      · exact Or.inl h1
      · exact h1.elim
    · simp at hf; subst hf; exact Or.inr ⟨rfl, mem_movesQ.2 he⟩

/-- One move is walked: its target is marked and pushed where it is new. -/
theorem Search.walk {N : Nat} {E : List (Nat × Nat × Nat)} {X M q t s : Nat} {stk rch : List Nat} {rest : List (Nat × Nat)} (hE : ∀ e ∈ E, e.2.1 < N) (hq : M.testBit q = true) (hm : (q, t, s) ∈ E)
    (h : Search N E X M stk rch (fun f x => f = q ∧ (x, 0) ∈ (t, s) :: rest)) :
    Search N E X (if s = 0 ∧ M.testBit t = false then M ||| 2 ^ t else M) (if s = 0 ∧ M.testBit t = false then stk ++ [t] else stk) rch (fun f x => f = q ∧ (x, 0) ∈ rest) := by
  by_cases hc : s = 0 ∧ M.testBit t = false
  · rw [if_pos hc, if_pos hc]
    have htl : t < N := hE _ hm
    have hnot : t ∉ stk ++ rch := fun hx => by
      have := (h.mem t).2 (by simpa using hx)
      rw [hc.2] at this
      cases this
    refine ⟨?_, ?_, ?_, ?_, ?_, or_bit_lt h.lt htl⟩
    · intro x hx
      rw [testBit_bit] at hx
      simp only [Bool.or_eq_true, decide_eq_true_eq] at hx
      rcases hx with hx | hx
      · exact h.sub x hx
      · subst hx
        have he : (q, x, 0) ∈ E := by have := hm; rw [hc.1] at this; exact this
        exact (h.sub q hq).move he
    · intro x hx
      rw [testBit_bit, h.start x hx]; rfl
    · intro x
      rw [testBit_bit]
      simp only [Bool.or_eq_true, decide_eq_true_eq, List.mem_append, List.mem_cons, List.not_mem_nil, or_false, h.mem]
      constructor
      · rintro ((h | h) | h)
        · exact Or.inl (Or.inl h)
        · exact Or.inr h
        · exact Or.inl (Or.inr h)
      · rintro ((h | h) | h)
        · exact Or.inl (Or.inl h)
        · exact Or.inr h
        · exact Or.inl (Or.inr h)
    · refine (List.Perm.nodup_iff (l₁ := t :: (stk ++ rch)) ?_).1 ?_
      · have h1 : List.Perm (t :: (stk ++ rch)) (stk ++ (t :: rch)) := (List.perm_middle (a := t) (l₁ := stk) (l₂ := rch)).symm
        simpa using h1
      · exact List.nodup_cons.2 ⟨hnot, h.nodup⟩
    · intro f hf x he
      rw [testBit_bit]
      simp only [Bool.or_eq_true, decide_eq_true_eq]
      rcases h.closed f hf x he with h1 | ⟨h1, h2⟩
      · exact Or.inl (Or.inl h1)
      · rcases List.mem_cons.1 h2 with h3 | h3
        · simp only [Prod.mk.injEq] at h3
          exact Or.inl (Or.inr h3.1)
        · exact Or.inr ⟨h1, h3⟩
  · rw [if_neg hc, if_neg hc]
    refine ⟨h.sub, h.start, h.mem, h.nodup, ?_, h.lt⟩
    intro f hf x he
    rcases h.closed f hf x he with h1 | ⟨h1, h2⟩
    · exact Or.inl h1
    · rcases List.mem_cons.1 h2 with h3 | h3
      · simp only [Prod.mk.injEq] at h3
        cases hx : M.testBit t with
        | true => exact Or.inl (by rw [h3.1]; exact hx)
        | false => exact absurd ⟨h3.2.symm, hx⟩ hc
      · exact Or.inr ⟨h1, h3⟩

/-- All moves of the state are walked. -/
theorem Search.done {N : Nat} {E : List (Nat × Nat × Nat)} {X M q : Nat} {stk rch : List Nat} (h : Search N E X M stk rch (fun f x => f = q ∧ (x, 0) ∈ ([] : List (Nat × Nat)))) : Search N E X M stk rch (fun _ _ => False) :=
  ⟨h.sub, h.start, h.mem, h.nodup, fun f hf t he => (h.closed f hf t he).elim Or.inl (fun h => by cases h.2), h.lt⟩

/-- At the search's end the marked states are the closure. -/
theorem Search.fin {N : Nat} {E : List (Nat × Nat × Nat)} {X M : Nat} {rch : List Nat} (hE : ∀ e ∈ E, e.2.1 < N) (h : Search N E X M [] rch (fun _ _ => False)) : M = closeM N E X := by
  refine mask_ext fun q => ?_
  rw [closeM_iff hE]
  refine reach_iff h.start ?_ h.sub q
  intro f t he hf
  have hr : f ∈ rch := by have := (h.mem f).1 hf; simpa using this
  rcases h.closed f hr t he with h1 | h1
  · exact h1
  · exact h1.elim

end Go.Proofs.Ybulkie.Plain
