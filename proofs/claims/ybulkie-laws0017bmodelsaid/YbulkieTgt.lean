/-
  THE PLAIN PART OF movesOf: by symbol, the states that the moves of a set lead to; the symbols read; and that its row is the model's.
-/
import Derived.Test.YbulkieBfs
namespace Go.Proofs.Ybulkie.Plain

/-- The moves of the states of l, in order. -/
def movesL (E : List (Nat × Nat × Nat)) (l : List Nat) : List (Nat × Nat) := l.flatMap (movesQ E)

/-- By symbol, where the moves lead. -/
def tgt (P : List (Nat × Nat)) (sym : Nat) : List Nat := P.filterMap fun p => if p.2 = sym + 1 then some p.1 else none

theorem tgt_nil (sym : Nat) : tgt [] sym = [] := rfl

theorem tgt_snoc (P : List (Nat × Nat)) (t y sym : Nat) : tgt (P ++ [(t, y)]) sym = if y = sym + 1 then tgt P sym ++ [t] else tgt P sym := by
  unfold tgt
  rw [List.filterMap_append]
  by_cases h : y = sym + 1
  · simp [h]
  · simp [h]

theorem tgt_len (P : List (Nat × Nat)) (sym : Nat) : (tgt P sym).length ≤ P.length := List.length_filterMap_le _ _

theorem mem_tgt {P : List (Nat × Nat)} {sym t : Nat} : t ∈ tgt P sym ↔ (t, sym + 1) ∈ P := by
  unfold tgt
  rw [List.mem_filterMap]
  constructor
  · rintro ⟨⟨a, b⟩, h1, h2⟩
    by_cases h : b = sym + 1
    · simp [h] at h2
      rw [← h2, ← h]; exact h1
    · simp [h] at h2
  · intro h
    exact ⟨_, h, by simp⟩

theorem mem_movesL {E : List (Nat × Nat × Nat)} {l : List Nat} {t s : Nat} : (t, s) ∈ movesL E l ↔ ∃ q ∈ l, (q, t, s) ∈ E := by
  unfold movesL
  rw [List.mem_flatMap]
  constructor
  · rintro ⟨q, h1, h2⟩; exact ⟨q, h1, mem_movesQ.1 h2⟩
  · rintro ⟨q, h1, h2⟩; exact ⟨q, h1, mem_movesQ.2 h2⟩

theorem movesQ_cons (e : Nat × Nat × Nat) (E : List (Nat × Nat × Nat)) (q : Nat) : (movesQ (e :: E) q).length = (movesQ E q).length + (if e.1 = q then 1 else 0) := by
  unfold movesQ
  by_cases h : e.1 = q
  · simp [h]
  · have : (e.1 == q) = false := by simpa using h
    rw [List.filter_cons, if_neg (by rw [this]; decide)]
    simp [h]

theorem movesL_len_cons (e : Nat × Nat × Nat) (E : List (Nat × Nat × Nat)) : ∀ (l : List Nat), l.Nodup → (movesL (e :: E) l).length ≤ (movesL E l).length + (if e.1 ∈ l then 1 else 0)
  | [], _ => by simp [movesL]
  | q :: l, hd => by
    have hd' := List.nodup_cons.1 hd
    have ih := movesL_len_cons e E l hd'.2
    have e1 : ∀ E', (movesL E' (q :: l)).length = (movesQ E' q).length + (movesL E' l).length := fun E' => by simp [movesL]
    rw [e1, e1, movesQ_cons]
    by_cases h : e.1 = q
    · have hn : e.1 ∉ l := by rw [h]; exact hd'.1
      have hm : e.1 ∈ q :: l := by rw [h]; exact List.mem_cons_self ..
      rw [if_neg hn] at ih
      rw [if_pos h, if_pos hm]
      omega
    · rw [if_neg h]
      by_cases hm : e.1 ∈ l
      · rw [if_pos hm] at ih
        rw [if_pos (List.mem_cons_of_mem _ hm)]
        omega
      · rw [if_neg hm] at ih
        rw [if_neg (by simp [h, hm])]
        omega

theorem movesL_len (l : List Nat) (hd : l.Nodup) : ∀ (E : List (Nat × Nat × Nat)), (movesL E l).length ≤ E.length
  | [] => by
    have : movesL [] l = [] := by
      unfold movesL
      rw [List.flatMap_eq_nil_iff]
      intro q _
      rfl
    rw [this]
    simp
  | e :: E => by
    have h1 := movesL_len_cons e E l hd
    have h2 := movesL_len l hd E
    have : (if e.1 ∈ l then 1 else 0) ≤ 1 := by split <;> omega
    simp only [List.length_cons]
    omega

theorem elems_nodup (N m : Nat) : (elems N m).Nodup := pw_mono (fun _ _ h => Nat.ne_of_lt h) (elems_sorted N m)

theorem movesQ_len (E : List (Nat × Nat × Nat)) (q : Nat) : (movesQ E q).length ≤ E.length := by
  unfold movesQ
  rw [List.length_map]
  exact List.length_filter_le _ _

theorem movesL_snoc (E : List (Nat × Nat × Nat)) (l : List Nat) (q : Nat) : movesL E (l ++ [q]) = movesL E l ++ movesQ E q := by simp [movesL]

/-- All moves of the set m. -/
def movesM (N : Nat) (E : List (Nat × Nat × Nat)) (m : Nat) : List (Nat × Nat) := movesL E (elems N m)

theorem maskOf_tgt {N m : Nat} {E : List (Nat × Nat × Nat)} (hm : m < 2 ^ N) (sym : Nat) : maskOf (tgt (movesM N E m) sym) = stepMask E m sym := by
  refine mask_ext fun q => ?_
  rw [mem_maskOf, mem_tgt, mem_stepMask]
  unfold movesM
  rw [mem_movesL]
  constructor
  · rintro ⟨f, h1, h2⟩; exact ⟨f, h2, (mem_elems.1 h1).2⟩
  · rintro ⟨f, h1, h2⟩; exact ⟨f, mem_elems.2 ⟨lt_of_testBit hm h2, h2⟩, h1⟩

theorem tgt_lt {N m : Nat} {E : List (Nat × Nat × Nat)} (hE : ∀ e ∈ E, e.2.1 < N) {sym t : Nat} (h : t ∈ tgt (movesM N E m) sym) : t < N := by
  obtain ⟨q, _, h2⟩ := mem_movesL.1 (mem_tgt.1 h)
  exact hE _ h2

theorem tgt_empty {N m : Nat} {E : List (Nat × Nat × Nat)} (hE : ∀ e ∈ E, e.2.1 < N) (hm : m < 2 ^ N) (sym : Nat) : tgt (movesM N E m) sym = [] ↔ stepC N E m sym = 0 := by
  unfold stepC
  rw [closeM_zero hE, ← maskOf_tgt hm sym]
  constructor
  · intro h; rw [h]; rfl
  · intro h
    refine List.eq_nil_iff_forall_not_mem.2 fun t ht => ?_
    have := mem_maskOf.2 ht
    rw [h] at this
    simp at this

/-- The symbols read. -/
def ReadIs (P : List (Nat × Nat)) (rd : List Nat) : Prop := rd.Nodup ∧ ∀ sym, sym ∈ rd ↔ tgt P sym ≠ []

theorem ReadIs.nil : ReadIs [] [] := ⟨List.nodup_nil, fun sym => by simp [tgt_nil]⟩

theorem ReadIs.skip {P : List (Nat × Nat)} {rd : List Nat} (h : ReadIs P rd) (t : Nat) : ReadIs (P ++ [(t, 0)]) rd :=
  ⟨h.1, fun sym => by rw [h.2, tgt_snoc, if_neg (by omega)]⟩

theorem ReadIs.old {P : List (Nat × Nat)} {rd : List Nat} (h : ReadIs P rd) (t : Nat) {sym : Nat} (hs : tgt P sym ≠ []) : ReadIs (P ++ [(t, sym + 1)]) rd := by
  refine ⟨h.1, fun x => ?_⟩
  rw [h.2, tgt_snoc]
  by_cases e : sym + 1 = x + 1
  · rw [if_pos e]
    have : sym = x := by omega
    subst this
    simp [hs]
  · rw [if_neg e]

theorem ReadIs.new {P : List (Nat × Nat)} {rd : List Nat} (h : ReadIs P rd) (t : Nat) {sym : Nat} (hs : tgt P sym = []) : ReadIs (P ++ [(t, sym + 1)]) (rd ++ [sym]) := by
  have hn : sym ∉ rd := fun hm => (h.2 sym).1 hm hs
  refine ⟨?_, fun x => ?_⟩
  · rw [List.nodup_append]
    refine ⟨h.1, by simp, ?_⟩
    intro a ha b hb
    simp at hb
    subst hb
    exact fun e => hn (e ▸ ha)
  · rw [List.mem_append, tgt_snoc, h.2]
    by_cases e : sym + 1 = x + 1
    · have : sym = x := by omega
      subst this
      simp
    · rw [if_neg e]
      have : ¬ x = sym := by omega
      simp [this]

/-- The symbols read, in their order: those on which the set moves. -/
def syms (N : Nat) (E : List (Nat × Nat × Nat)) (m K : Nat) : List Nat := (List.range K).filter fun sym => decide (stepC N E m sym ≠ 0)

theorem elems_maskOf_read {N m K : Nat} {E : List (Nat × Nat × Nat)} {rd : List Nat} (hE : ∀ e ∈ E, e.2.1 < N) (hm : m < 2 ^ N) (h : ReadIs (movesM N E m) rd) : elems K (maskOf rd) = syms N E m K := by
  unfold elems syms
  refine List.filter_congr fun sym _ => ?_
  have h1 : (maskOf rd).testBit sym = true ↔ stepC N E m sym ≠ 0 := by
    rw [mem_maskOf, h.2, Ne, tgt_empty hE hm]
  by_cases h2 : stepC N E m sym ≠ 0
  · rw [h1.2 h2]; simp [h2]
  · have : (maskOf rd).testBit sym = false := by
      cases hb : (maskOf rd).testBit sym with
      | false => rfl
      | true => exact absurd (h1.1 hb) h2
    rw [this]; simp [h2]

theorem foldl_filter_id {α β : Type} (f : β → α → β) (p : α → Bool) (hid : ∀ b a, p a = false → f b a = b) : ∀ (l : List α) (b : β), (l.filter p).foldl f b = l.foldl f b
  | [], _ => rfl
  | a :: l, b => by
    by_cases h : p a = true
    · rw [List.filter_cons, if_pos h, List.foldl_cons, List.foldl_cons, foldl_filter_id f p hid l]
    · have h' : p a = false := by simpa using h
      rw [List.filter_cons, if_neg h, List.foldl_cons, hid b a h', foldl_filter_id f p hid l]

/-- The row's own steps: over the symbols read alone. -/
def rowOf (N : Nat) (E : List (Nat × Nat × Nat)) (ord : List Nat) (m : Nat) (l : List Nat) : List Nat × List (Nat × Nat) := l.foldl (proc N E m) (ord, [])

theorem rowOf_syms (N : Nat) (E : List (Nat × Nat × Nat)) (ord : List Nat) (m K : Nat) : rowOf N E ord m (syms N E m K) = rowTo N E ord m K := by
  unfold rowOf rowTo syms
  refine foldl_filter_id _ _ ?_ _ _
  intro b a h
  unfold proc
  rw [if_pos (by simpa using h)]

theorem rowOf_snoc (N : Nat) (E : List (Nat × Nat × Nat)) (ord : List Nat) (m : Nat) (l : List Nat) (sym : Nat) : rowOf N E ord m (l ++ [sym]) = proc N E m (rowOf N E ord m l) sym := by simp [rowOf]

theorem rowOf_step {N : Nat} {E : List (Nat × Nat × Nat)} {ord : List Nat} {m : Nat} {l : List Nat} {sym : Nat} (h : stepC N E m sym ≠ 0) :
    rowOf N E ord m (l ++ [sym]) = (if stepC N E m sym ∈ (rowOf N E ord m l).1 then (rowOf N E ord m l).1 else (rowOf N E ord m l).1 ++ [stepC N E m sym], (rowOf N E ord m l).2 ++ [((rowOf N E ord m l).1.idxOf (stepC N E m sym), sym)]) := by
  rw [rowOf_snoc, proc, if_neg h]

theorem snoc_ind {α : Type} {p : List α → Prop} (h0 : p []) (h1 : ∀ l a, p l → p (l ++ [a])) (l : List α) : p l := by
  have h : ∀ l : List α, p l.reverse := fun l => by
    induction l with
    | nil => exact h0
    | cons a l ih => rw [List.reverse_cons]; exact h1 _ _ ih
  have := h l.reverse
  rwa [List.reverse_reverse] at this

theorem rowOf_len (N : Nat) (E : List (Nat × Nat × Nat)) (ord : List Nat) (m : Nat) : ∀ (l : List Nat), (∀ s ∈ l, stepC N E m s ≠ 0) → (rowOf N E ord m l).2.length = l.length := by
  refine snoc_ind (fun _ => rfl) ?_
  intro l s ih h
  rw [rowOf_step (h s (by simp))]
  simp [ih (fun x hx => h x (by simp [hx]))]

theorem rowOf_good {N : Nat} {E : List (Nat × Nat × Nat)} (hE : ∀ e ∈ E, e.2.1 < N) {ord : List Nat} {m : Nat} (h : Good N ord) (l : List Nat) : Good N (rowOf N E ord m l).1 := by
  refine snoc_ind (p := fun l => Good N (rowOf N E ord m l).1) h ?_ l
  intro l s ih
  rw [rowOf_snoc]
  exact proc_good hE ih

theorem rowOf_prefix (N : Nat) (E : List (Nat × Nat × Nat)) (ord : List Nat) (m : Nat) (l : List Nat) : ord <+: (rowOf N E ord m l).1 := by
  refine snoc_ind (p := fun l => ord <+: (rowOf N E ord m l).1) (List.prefix_refl _) ?_ l
  intro l s ih
  rw [rowOf_snoc]
  exact ih.trans (proc_prefix N E m _ s)

theorem syms_len (N : Nat) (E : List (Nat × Nat × Nat)) (m K : Nat) : (syms N E m K).length ≤ K := by
  have := List.length_filter_le (fun sym => decide (stepC N E m sym ≠ 0)) (List.range K)
  simpa [syms] using this

theorem mem_syms {N : Nat} {E : List (Nat × Nat × Nat)} {m K s : Nat} : s ∈ syms N E m K ↔ s < K ∧ stepC N E m s ≠ 0 := by simp [syms]

end Go.Proofs.Ybulkie.Plain
