/-
  THE PLAIN PART OF dfa: how a row's numbers run ahead of the states found; where the search ends.
-/
import Derived.Test.YbulkieTgt
namespace Go.Proofs.Ybulkie.Plain

/-- How many states are known behind a piece of a row. -/
def grow (L : Nat) (row : List (Nat × Nat)) : Nat := row.foldl (fun L p => if p.1 < L then L else L + 1) L

theorem grow_snoc (L : Nat) (row : List (Nat × Nat)) (p : Nat × Nat) : grow L (row ++ [p]) = if p.1 < grow L row then grow L row else grow L row + 1 := by
  unfold grow
  rw [List.foldl_append]
  rfl

theorem grow_le (L : Nat) (row : List (Nat × Nat)) : L ≤ grow L row := by
  refine snoc_ind (p := fun row => L ≤ grow L row) (Nat.le_refl _) ?_ row
  intro l a h
  rw [grow_snoc]
  split <;> omega

theorem grow_add (L : Nat) (row : List (Nat × Nat)) : grow L row ≤ L + row.length := by
  refine snoc_ind (p := fun row => grow L row ≤ L + row.length) (Nat.le_refl _) ?_ row
  intro l a h
  rw [grow_snoc, List.length_append, List.length_singleton]
  split <;> omega

theorem proc_grow {N : Nat} {E : List (Nat × Nat × Nat)} {m sym L : Nat} {st : List Nat × List (Nat × Nat)} (h : grow L st.2 = st.1.length ∧ ∀ (j t s : Nat), st.2[j]? = some (t, s) → t ≤ grow L (st.2.take j)) :
    grow L (proc N E m st sym).2 = (proc N E m st sym).1.length ∧ ∀ (j t s : Nat), (proc N E m st sym).2[j]? = some (t, s) → t ≤ grow L ((proc N E m st sym).2.take j) := by
  unfold proc
  by_cases h0 : stepC N E m sym = 0
  · rw [if_pos h0]; exact h
  · rw [if_neg h0]
    have hidx : st.1.idxOf (stepC N E m sym) ≤ st.1.length := List.idxOf_le_length
    refine ⟨?_, ?_⟩
    · show grow L (st.2 ++ [(st.1.idxOf (stepC N E m sym), sym)]) = (if stepC N E m sym ∈ st.1 then st.1 else st.1 ++ [stepC N E m sym]).length
      rw [grow_snoc, h.1]
      by_cases hc : stepC N E m sym ∈ st.1
      · rw [if_pos hc, if_pos (List.idxOf_lt_length_iff.2 hc)]
      · rw [if_neg hc, if_neg (fun hh => hc (List.idxOf_lt_length_iff.1 hh))]
        simp
    · intro j t s hj
      show t ≤ grow L ((st.2 ++ [(st.1.idxOf (stepC N E m sym), sym)]).take j)
      change (st.2 ++ [(st.1.idxOf (stepC N E m sym), sym)])[j]? = some (t, s) at hj
      by_cases hl : j < st.2.length
      · rw [List.getElem?_append_left hl] at hj
        rw [List.take_append_of_le_length (by omega)]
        exact h.2 j t s hj
      · have hj2 : j = st.2.length := by
          have := (List.getElem?_eq_some_iff.1 hj).1
          simp at this
          omega
        subst hj2
        simp only [List.getElem?_concat_length, Option.some.injEq, Prod.mk.injEq] at hj
        rw [List.take_left, h.1, ← hj.1]
        exact hidx

theorem rowTo_grow (N : Nat) (E : List (Nat × Nat × Nat)) (ord : List Nat) (m : Nat) : ∀ K, grow ord.length (rowTo N E ord m K).2 = (rowTo N E ord m K).1.length ∧ ∀ (j t s : Nat), (rowTo N E ord m K).2[j]? = some (t, s) → t ≤ grow ord.length ((rowTo N E ord m K).2.take j)
  | 0 => ⟨rfl, fun j t s h => by rw [rowTo_zero] at h; cases h⟩
  | K + 1 => by
    rw [rowTo_succ]
    exact proc_grow (rowTo_grow N E ord m K)

/-- The search: how far it has come at its end. -/
theorem bfs_len_mono (N K : Nat) (E : List (Nat × Nat × Nat)) (c0 : Nat) {i j : Nat} (h : i ≤ j) : (bfs N K E c0 i).1.length ≤ (bfs N K E c0 j).1.length := by
  obtain ⟨d, rfl⟩ := Nat.le.dest h
  exact (bfs_prefix_le N K E c0 i d).length_le

end Go.Proofs.Ybulkie.Plain
