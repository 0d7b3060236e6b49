/-
  THE LAW's OWN ROOM: the automaton it builds, the struct newSubsets leaves, the comparison's data.
-/
import Derived.Test.YbulkieDst
namespace Go.Proofs.Ybulkie
open Go.RowKit Go.Maps

namespace Plain
theorem movesQ_snoc (P : List (Nat × Nat × Nat)) (e : Nat × Nat × Nat) (q : Nat) : movesQ (P ++ [e]) q = if e.1 = q then movesQ P q ++ [(e.2.1, e.2.2)] else movesQ P q := by
  unfold movesQ
  by_cases h : e.1 = q
  · simp [h]
  · simp [h]

/-- The search's end is one. -/
theorem end_one {N K : Nat} {E : List (Nat × Nat × Nat)} {c0 n n' : Nat} (h1 : ∀ j, j < n → j < (bfs N K E c0 j).1.length) (h2 : (bfs N K E c0 n).1.length = n)
    (h1' : ∀ j, j < n' → j < (bfs N K E c0 j).1.length) (h2' : (bfs N K E c0 n').1.length = n') : n = n' := by
  rcases Nat.lt_trichotomy n n' with h | h | h
  · have := h1' n h; omega
  · exact h
  · have := h1 n' h; omega
end Plain

theorem mvCells_snoc (l : List (Nat × Nat)) (p : Nat × Nat) : mvCells (l ++ [p]) = mvCells l ++ [.int .i64 (p.1 : Int), .int .i64 ((p.2 : Int) - 1), .int .u8 0] := by simp [mvCells]
theorem mvCells_len (l : List (Nat × Nat)) : (mvCells l).length = l.length * 3 := by
  induction l with
  | nil => rfl
  | cons a l ih =>
    have e : mvCells (a :: l) = [.int .i64 (a.1 : Int), .int .i64 ((a.2 : Int) - 1), .int .u8 0] ++ mvCells l := rfl
    rw [e, List.length_append, ih]
    simp
    omega

/-- THE MOVES WHILE THEY ARE LAID: by state a row, each in a role of its own. -/
def MvRows (N : Nat) (H : Nat → Option (Nat × Obj)) (mb : Nat) (rows : Array Value) (P : List (Nat × Nat × Nat)) : Prop :=
  H 41 = some (mb, .cells rows 78 (0, 0)) ∧ rows.size = N ∧ ∀ q, q < N → ∃ v, rows[q]? = some v ∧ RowV (H (50 + q)) 81 3 v (Plain.movesQ P q).length (mvCells (Plain.movesQ P q))

theorem MvRows.cell {N : Nat} {H : Nat → Option (Nat × Obj)} {mb : Nat} {rows : Array Value} {P : List (Nat × Nat × Nat)} (h : MvRows N H mb rows P) {q : Nat} (hq : q < N) : ∃ a c, rows[q]? = some (.slice a (Plain.movesQ P q).length c) ∧ RowV (H (50 + q)) 81 3 (.slice a (Plain.movesQ P q).length c) (Plain.movesQ P q).length (mvCells (Plain.movesQ P q)) := by
  obtain ⟨v, h1, h2⟩ := h.2.2 q hq
  obtain ⟨a, c, rfl⟩ := h2.sl
  exact ⟨a, c, h1, h2⟩

theorem MvRows.congr {N : Nat} {H H' : Nat → Option (Nat × Obj)} {mb : Nat} {rows : Array Value} {P : List (Nat × Nat × Nat)} (h : MvRows N H mb rows P) (e : ∀ r, r ≠ 40 → H' r = H r) : MvRows N H' mb rows P := by
  refine ⟨by rw [e 41 (by decide)]; exact h.1, h.2.1, fun q hq => ?_⟩
  obtain ⟨v, h1, h2⟩ := h.2.2 q hq
  exact ⟨v, h1, by rw [e (50 + q) (by omega)]; exact h2⟩

theorem MvRows.set {N : Nat} {H H' : Nat → Option (Nat × Obj)} {mb : Nat} {rows : Array Value} {P : List (Nat × Nat × Nat)} {f t y : Nat} (h : MvRows N H mb rows P) (hf : f < N) {v : Value}
    (e41 : H' 41 = some (mb, .cells (rows.setIfInBounds f v) 78 (0, 0))) (hv : RowV (H' (50 + f)) 81 3 v ((Plain.movesQ P f).length + 1) (mvCells (Plain.movesQ P f) ++ [.int .i64 (t : Int), .int .i64 ((y : Int) - 1), .int .u8 0])) (e : ∀ r, 50 ≤ r → r ≠ 50 + f → H' r = H r) :
    MvRows N H' mb (rows.setIfInBounds f v) (P ++ [(f, t, y)]) := by
  refine ⟨e41, by simp [h.2.1], fun x hx => ?_⟩
  rw [Plain.movesQ_snoc]
  by_cases ex : f = x
  · subst ex
    rw [if_pos rfl]
    refine ⟨v, by rw [Array.getElem?_setIfInBounds]; simp [h.2.1, hf], ?_⟩
    rw [mvCells_snoc, List.length_append, List.length_singleton]
    exact hv
  · rw [if_neg ex]
    obtain ⟨u, h1, h2⟩ := h.2.2 x hx
    refine ⟨u, by rw [Array.getElem?_setIfInBounds, if_neg ex]; exact h1, ?_⟩
    rw [e (50 + x) (by omega) (by omega)]
    exact h2

/-- The rows are written no more. -/
theorem freeze_rows {w0 w : World} {N : Nat} {H : Nat → Option (Nat × Obj)} {F : Nat → Option (Array Value × TypeId)} {mb : Nat} {rows : Array Value} {P : List (Nat × Nat × Nat)} (hst : St w0 w H F) (h : MvRows N H mb rows P) :
    ∀ k, k ≤ N → ∃ H' F', St w0 w H' F' ∧ FLe F F' ∧ (∀ r, r < 50 ∨ 50 + k ≤ r → H' r = H r) ∧ ∀ q, q < k → ∃ v, rows[q]? = some v ∧ ((v = .slice none 0 0 ∧ Plain.movesQ P q = []) ∨ RoRow F' 81 3 v (Plain.movesQ P q).length (mvCells (Plain.movesQ P q)))
  | 0, _ => ⟨H, F, hst, FLe.refl _, fun _ _ => rfl, fun q hq => absurd hq (by omega)⟩
  | k + 1, hk => by
    obtain ⟨H', F', h1, h2, h3, h4⟩ := freeze_rows hst h k (by omega)
    obtain ⟨v, hv, hr⟩ := h.2.2 k (by omega)
    by_cases e : v = .slice none 0 0
    · refine ⟨H', F', h1, h2, fun r hr => h3 r (by omega), fun q hq => ?_⟩
      by_cases eq : q = k
      · subst eq
        refine ⟨v, hv, Or.inl ⟨e, ?_⟩⟩
        rcases hr.2 with ⟨_, g, _⟩ | ⟨b, cap, cur, _, g, _⟩
        · exact List.length_eq_zero_iff.1 g
        · rw [e] at g; cases g
      · exact h4 q (by omega)
    · have hr' : RowV (H' (50 + k)) 81 3 v (Plain.movesQ P k).length (mvCells (Plain.movesQ P k)) := by rw [h3 (50 + k) (by omega)]; exact hr
      obtain ⟨F2, g1, g2, g3⟩ := hr'.freeze h1 e
      refine ⟨_, F2, g1, FLe.trans h2 g2, fun r hr => by rw [upd_other _ _ (by omega)]; exact h3 r (by omega), fun q hq => ?_⟩
      by_cases eq : q = k
      · subst eq
        exact ⟨v, hv, Or.inr g3⟩
      · obtain ⟨u, u1, u2⟩ := h4 q (by omega)
        exact ⟨u, u1, Plain.or_mono id (RoRow.mono g2) u2⟩

/-- THE AUTOMATON: behind the box. -/
theorem nfa_built {w0 w : World} {N : Nat} {H : Nat → Option (Nat × Obj)} {F : Nat → Option (Array Value × TypeId)} {mb : Nat} {rows : Array Value} {P : List (Nat × Nat × Nat)} (hst : St w0 w H F) (h : MvRows N H mb rows P) :
    ∃ H' F', St w0 (w.alloc (.cells #[.slice (some ⟨mb, 0, none⟩) N N] 86 (0, 0))) H' F' ∧ FLe F F' ∧ (∀ r, r < 41 → H' r = H r) ∧ F' w.heap.size = some (#[.slice (some ⟨mb, 0, none⟩) N N], 86) ∧ Nfa N P F' w.heap.size := by
  obtain ⟨H', F', h1, h2, h3, h4⟩ := freeze_rows hst h N (Nat.le_refl _)
  have e41 : H' 41 = some (mb, .cells rows 78 (0, 0)) := by rw [h3 41 (by omega)]; exact h.1
  have g1 := h1.freeze e41
  have g2 := h1.freeze_keeps e41
  obtain ⟨k1, k2⟩ := g1.freezeNew (w' := w.alloc (.cells #[.slice (some ⟨mb, 0, none⟩) N N] 86 (0, 0))) (b := w.heap.size) (c := #[.slice (some ⟨mb, 0, none⟩) N N]) (t := 86) ((Below.refl _ _).alloc (Nat.le_refl _) _) (by show (w.heap.push _)[w.heap.size]? = _; simp) (Nat.le_refl _)
  refine ⟨_, _, k1, FLe.trans h2 (FLe.trans g2 k2), fun r hr => by rw [upd_other _ _ (by omega)]; exact h3 r (by omega), upd_same _ _ _, ⟨mb, rows, upd_same _ _ _, k2 _ _ (upd_same _ _ _), h.2.1, fun q hq => ?_⟩⟩
  obtain ⟨v, hv, hr⟩ := h4 q hq
  exact ⟨v, hv, Plain.or_mono id (fun x => (RoRow.mono g2 x).mono k2) hr⟩

/-- What newSubsets leaves is the state that dfa begins with. -/
theorem cls_new {w0 w : World} {N K : Nat} {E : List (Nat × Nat × Nat)} {H : Nat → Option (Nat × Obj)} {F : Nat → Option (Array Value × TypeId)} {sb mb kb tb nb : Nat} {sy lim : Value} (hst : St w0 w H F) (hn : Nfa N E F nb)
    (h1 : H 1 = some (sb, .cells ({ newSv nb mb kb tb N K sy with limit := lim }).arr 91 (0, 0))) (h8 : H 8 = some (kb, .cells (madeCells #[.int .i64 0] N) 3 (0, 0))) (h9 : H 9 = some (mb, .map #[] 0)) (h10 : H 10 = some (tb, .cells (madeCells #[.slice none 0 0] K) 89 (0, 0)))
    (h0 : ∀ r, r ≠ 1 → r ≠ 8 → r ≠ 9 → r ≠ 10 → r < 16 → H r = none) (hK : K ≤ 3) :
    Cls N E w0 w H F sb nb { newSv nb mb kb tb N K sy with limit := lim } [] 0 [] ∧ Tg K H { newSv nb mb kb tb N K sy with limit := lim } (fun _ => []) := by
  have hnil : ∀ (r : Nat) (e : TypeId) (size : Nat), r ≠ 1 → r ≠ 8 → r ≠ 9 → r ≠ 10 → r < 16 → RowV (H r) e size (.slice none 0 0) 0 [] := fun r e size a b c d f => by rw [h0 r a b c d f]; exact RowV.nil _ _
  refine ⟨⟨hst, h1, rfl, hn, ⟨0, [], hnil 2 _ _ (by decide) (by decide) (by decide) (by decide) (by decide)⟩, ⟨0, [], hnil 3 _ _ (by decide) (by decide) (by decide) (by decide) (by decide)⟩, ⟨0, [], hnil 4 _ _ (by decide) (by decide) (by decide) (by decide) (by decide)⟩, ⟨0, [], hnil 5 _ _ (by decide) (by decide) (by decide) (by decide) (by decide)⟩,
    ⟨[], hnil 6 _ _ (by decide) (by decide) (by decide) (by decide) (by decide), rfl, fun i m h => by cases h⟩, hnil 7 _ _ (by decide) (by decide) (by decide) (by decide) (by decide), ?_, ⟨rfl, by omega⟩, ?_⟩, ?_⟩
  · refine ⟨kb, _, 2 ^ N - 1, h8, rfl, ?_, fun q hq => ⟨0, ?_, by omega, by omega, ?_⟩⟩
    · simp [madeCells]
    · simp [madeCells, hq, Nat.mod_one]
    · simp [Nat.testBit_two_pow_sub_one, hq]
  · refine ⟨mb, 0, _, rfl, by rw [h9]; exact MapV.new 9 _, ⟨?_, ?_, List.nodup_nil, ?_⟩, by omega⟩
    · intro X _ v h
      cases h
    · intro i m h
      cases h
    · intro m h
      cases h
  · refine ⟨⟨tb, _, rfl, h10, by simp [madeCells], fun sym hs => ⟨.slice none 0 0, by simp [madeCells, hs, Nat.mod_one], hnil (11 + sym) _ _ (by omega) (by omega) (by omega) (by omega) (by omega)⟩⟩, 0, [], hnil 14 _ _ (by decide) (by decide) (by decide) (by decide) (by decide)⟩

/-- WHAT THE COMPARISON READS OF THE AUTOMATON BUILT. -/
structure Cmp (N K : Nat) (E : List (Nat × Nat × Nat)) (c0 fin : Nat) (H : Nat → Option (Nat × Obj)) (F : Nat → Option (Array Value × TypeId)) (lb fb : Nat) (sy : Value) (db n : Nat) (dn df : Value) : Prop where
  d : H 18 = some (db, .cells #[sy, dn, df] 104 (0, 0))
  next : ∃ nvs, RowV (H 19) 78 1 dn n nvs ∧ ∀ (j : Nat) row, (Plain.bfs N K E c0 n).2[j]? = some row → ∃ v, nvs[j]? = some v ∧ RoRow F 81 3 v row.length (rwCells row)
  final : RowV (H 20) 4 1 df n (((Plain.bfs N K E c0 n).1.take n).map (fun m => Value.bool (m.testBit fin)))
  log : ∃ al cl lvs, H 22 = some (lb, .cells #[.slice al n cl] 88 (0, 0)) ∧ RowV (H 23) 89 1 (.slice al n cl) n lvs ∧ SetsIs N F ((Plain.bfs N K E c0 n).1.take n) lvs
  fin : H 24 = some (fb, .cells #[.int .i64 (fin : Int)] 3 (0, 0))

theorem Cmp.move {N K : Nat} {E : List (Nat × Nat × Nat)} {c0 fin : Nat} {H H' : Nat → Option (Nat × Obj)} {F F' : Nat → Option (Array Value × TypeId)} {lb fb : Nat} {sy : Value} {db n : Nat} {dn df : Value} (h : Cmp N K E c0 fin H F lb fb sy db n dn df)
    (e : ∀ r, 17 < r → r < 25 → H' r = H r) (hf : FLe F F') : Cmp N K E c0 fin H' F' lb fb sy db n dn df := by
  refine ⟨by rw [e 18 (by decide) (by decide)]; exact h.d, ?_, by rw [e 20 (by decide) (by decide)]; exact h.final, ?_, by rw [e 24 (by decide) (by decide)]; exact h.fin⟩
  · obtain ⟨nvs, h1, h2⟩ := h.next
    refine ⟨nvs, by rw [e 19 (by decide) (by decide)]; exact h1, fun j row hj => ?_⟩
    obtain ⟨v, h3, h4⟩ := h2 j row hj
    exact ⟨v, h3, h4.mono hf⟩
  · obtain ⟨al, cl, lvs, h1, h2, h3⟩ := h.log
    exact ⟨al, cl, lvs, by rw [e 22 (by decide) (by decide)]; exact h1, by rw [e 23 (by decide) (by decide)]; exact h2, h3.mono hf⟩

/-- dfa's two outcomes, as the comparison meets them. -/
def Dout (N K : Nat) (E : List (Nat × Nat × Nat)) (c0 fin lim : Nat) (H : Nat → Option (Nat × Obj)) (F : Nat → Option (Array Value × TypeId)) (lb fb : Nat) (sy : Value) (p : Option Addr) (ok : Bool) : Prop :=
  (p = none ∧ ok = false ∧ ∃ i, (∀ j, j ≤ i → j < (Plain.bfs N K E c0 j).1.length) ∧ lim < (Plain.bfs N K E c0 i).1.length) ∨
  ∃ db n dn df, p = some ⟨db, 0, none⟩ ∧ ok = true ∧ (∀ j, j < n → j < (Plain.bfs N K E c0 j).1.length) ∧ (Plain.bfs N K E c0 n).1.length = n ∧ n ≤ lim ∧ Cmp N K E c0 fin H F lb fb sy db n dn df

theorem dout_of {N K : Nat} {E : List (Nat × Nat × Nat)} {c0 fin lim : Nat} {w0 : World} {H : Nat → Option (Nat × Obj)} {F : Nat → Option (Array Value × TypeId)} {sb nb lb fb : Nat} {sy : Value} {e : Ending} {w' : World} (h : DPost N K E c0 fin lim w0 H F sb nb lb fb sy e w') :
    ∃ p ok H' F', e = .returned (.tuple #[.pointer p, .bool ok]) ∧ St w0 w' H' F' ∧ FLe F F' ∧ (∀ r, 24 < r → r ≠ 40 → H' r = H r) ∧ Dout N K E c0 fin lim H' F' lb fb sy p ok := by
  rcases h with ⟨h1, i, h2, h3, H', F', h4, h5, h6⟩ | ⟨db, nmb, n, ov, s, M, ms, dn, df, H', F', h1, h2, h3, h4, h5, h6, h7⟩
  · exact ⟨none, false, H', F', h1, h4, h5, h6, Or.inl ⟨rfl, rfl, i, h2, h3⟩⟩
  · exact ⟨some ⟨db, 0, none⟩, true, H', F', h1, h5.cls.st, h6, h7, Or.inr ⟨db, n, dn, df, rfl, rfl, h2, h3, h4, h5.d, h5.next, h5.final, h5.log, h5.fin⟩⟩

theorem Dout.move {N K : Nat} {E : List (Nat × Nat × Nat)} {c0 fin lim : Nat} {H H' : Nat → Option (Nat × Obj)} {F F' : Nat → Option (Array Value × TypeId)} {lb fb : Nat} {sy : Value} {p : Option Addr} {ok : Bool} (h : Dout N K E c0 fin lim H F lb fb sy p ok)
    (e : ∀ r, 17 < r → r < 25 → H' r = H r) (hf : FLe F F') : Dout N K E c0 fin lim H' F' lb fb sy p ok := by
  rcases h with h | ⟨db, n, dn, df, h1, h2, h3, h4, h5, h6⟩
  · exact Or.inl h
  · exact Or.inr ⟨db, n, dn, df, h1, h2, h3, h4, h5, h6.move e hf⟩

/-- At the model's end. -/
theorem Dout.over {N K : Nat} {E : List (Nat × Nat × Nat)} {c0 fin lim : Nat} {H : Nat → Option (Nat × Obj)} {F : Nat → Option (Array Value × TypeId)} {lb fb : Nat} {sy : Value} {p : Option Addr} {ok : Bool} (h : Dout N K E c0 fin lim H F lb fb sy p ok) {n : Nat}
    (h1 : ∀ j, j < n → j < (Plain.bfs N K E c0 j).1.length) (h2 : (Plain.bfs N K E c0 n).1.length = n) :
    (p = none ∧ ok = false ∧ lim < n) ∨ ∃ db dn df, p = some ⟨db, 0, none⟩ ∧ ok = true ∧ n ≤ lim ∧ Cmp N K E c0 fin H F lb fb sy db n dn df := by
  rcases h with ⟨a, b, i, c, d⟩ | ⟨db, n', dn, df, a, b, c, d, e, f⟩
  · refine Or.inl ⟨a, b, ?_⟩
    have hin : i ≤ n := by
      rcases Nat.lt_or_ge n i with g | g
      · have := c n (by omega); omega
      · exact g
    have := Plain.bfs_len_mono N K E c0 hin
    omega
  · have := Plain.end_one c d h1 h2
    subst this
    exact Or.inr ⟨db, dn, df, a, b, e, f⟩

end Go.Proofs.Ybulkie
