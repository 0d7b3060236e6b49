/-
  (*subsets).movesOf (function 34): the room it uses, and its walk.
-/
import Derived.Test.YbulkieClosure
import Derived.Test.YbulkieTgt
import Derived.Test.YbulkieOrders
namespace Go.Proofs.Ybulkie
open Go.RowKit Go.Maps

/-- THE TARGETS: by symbol a row of states, each in a role of its own. -/
def TgRows (K : Nat) (H : Nat → Option (Nat × Obj)) (tb : Nat) (tv : Array Value) (T : Nat → List Nat) : Prop :=
  H 10 = some (tb, .cells tv 89 (0, 0)) ∧ tv.size = K ∧ ∀ sym, sym < K → ∃ v, tv[sym]? = some v ∧ RowV (H (11 + sym)) 3 1 v (T sym).length (ints (T sym))

structure Tg (K : Nat) (H : Nat → Option (Nat × Obj)) (s : Sv) (T : Nat → List Nat) : Prop where
  rows : ∃ tb tv, s.targets = .slice (some ⟨tb, 0, none⟩) K K ∧ TgRows K H tb tv T
  read : ∃ n xs, RowV (H 14) 3 1 s.read n xs

/-- A row's cells. -/
def rwCells (l : List (Nat × Nat)) : List Value := l.flatMap fun p => [.int .i64 (p.1 : Int), .int .i64 (p.2 : Int), .int .u8 0]

theorem rwCells_snoc (l : List (Nat × Nat)) (p : Nat × Nat) : rwCells (l ++ [p]) = rwCells l ++ [.int .i64 (p.1 : Int), .int .i64 (p.2 : Int), .int .u8 0] := by simp [rwCells]
theorem rwCells_len (l : List (Nat × Nat)) : (rwCells l).length = l.length * 3 := by
  induction l with
  | nil => rfl
  | cons a l ih =>
    have e : rwCells (a :: l) = [.int .i64 (a.1 : Int), .int .i64 (a.2 : Int), .int .u8 0] ++ rwCells l := rfl
    rw [e, List.length_append, ih]
    simp
    omega

/-- THE STATE WHILE THE MOVES ARE SORTED BY SYMBOL: P: the moves met; n: how many symbols are read; rv: the slice of those. -/
structure Ph1 (K : Nat) (w0 wr : World) (H0 : Nat → Option (Nat × Obj)) (F : Nat → Option (Array Value × TypeId)) (tb : Nat) (P : List (Nat × Nat)) (n : Nat) (rv : Value) (HR : Nat → Option (Nat × Obj)) (tv : Array Value) (rd : List Nat) : Prop where
  st : St w0 wr HR F
  keep : ∀ r, r < 10 ∨ (14 < r ∧ r ≠ 40) → HR r = H0 r
  rows : TgRows K HR tb tv (Plain.tgt P)
  read : Plain.ReadIs P rd
  row : RowV (HR 14) 3 1 rv n (ints rd)

theorem TgRows.cell {K : Nat} {H : Nat → Option (Nat × Obj)} {tb : Nat} {tv : Array Value} {T : Nat → List Nat} (h : TgRows K H tb tv T) {sym : Nat} (hs : sym < K) : ∃ a c, tv[sym]? = some (.slice a (T sym).length c) ∧ RowV (H (11 + sym)) 3 1 (.slice a (T sym).length c) (T sym).length (ints (T sym)) := by
  obtain ⟨v, h1, h2⟩ := h.2.2 sym hs
  obtain ⟨a, c, rfl⟩ := h2.sl
  exact ⟨a, c, h1, h2⟩

/-- The rows behind a world's turn that leaves them alone. -/
theorem TgRows.congr {K : Nat} {H H' : Nat → Option (Nat × Obj)} {tb : Nat} {tv : Array Value} {T T' : Nat → List Nat} (h : TgRows K H tb tv T) (e : ∀ r, 10 ≤ r → r < 11 + K → H' r = H r) (eT : ∀ sym, sym < K → T' sym = T sym) : TgRows K H' tb tv T' := by
  refine ⟨by rw [e 10 (by omega) (by omega)]; exact h.1, h.2.1, fun sym hs => ?_⟩
  obtain ⟨v, h1, h2⟩ := h.2.2 sym hs
  exact ⟨v, h1, by rw [e (11 + sym) (by omega) (by omega), eT sym hs]; exact h2⟩

/-- One row has turned. -/
theorem TgRows.set {K : Nat} {H H' : Nat → Option (Nat × Obj)} {tb : Nat} {tv : Array Value} {T T' : Nat → List Nat} (h : TgRows K H tb tv T) {sym : Nat} (hs : sym < K) {v : Value}
    (e10 : H' 10 = some (tb, .cells (tv.setIfInBounds sym v) 89 (0, 0))) (hv : RowV (H' (11 + sym)) 3 1 v (T' sym).length (ints (T' sym))) (e : ∀ r, 11 ≤ r → r < 11 + K → r ≠ 11 + sym → H' r = H r) (eT : ∀ x, x < K → x ≠ sym → T' x = T x) : TgRows K H' tb (tv.setIfInBounds sym v) T' := by
  refine ⟨e10, by simp [h.2.1], fun x hx => ?_⟩
  by_cases ex : x = sym
  · subst ex
    exact ⟨v, by rw [Array.getElem?_setIfInBounds]; simp [h.2.1, hs], hv⟩
  · obtain ⟨u, h1, h2⟩ := h.2.2 x hx
    refine ⟨u, by rw [Array.getElem?_setIfInBounds, if_neg (fun q => ex q.symm)]; exact h1, ?_⟩
    rw [e (11 + x) (by omega) (by omega) (by omega), eT x hx ex]
    exact h2

theorem RoRow0.sl {F : Nat → Option (Array Value × TypeId)} {e : TypeId} {size n : Nat} {v : Value} {xs : List Value} (h : RoRow0 F e size v n xs) : ∃ a c, v = .slice a n c ∧ (0 < n → ∃ b, a = some ⟨b, 0, none⟩ ∧ RoRow F e size (.slice (some ⟨b, 0, none⟩) n c) n xs) := by
  rcases h with ⟨rfl, rfl, _⟩ | h
  · exact ⟨none, 0, rfl, fun h => absurd h (by omega)⟩
  · have h' := h
    obtain ⟨_, b, cap, c, rfl, _⟩ := h'
    exact ⟨_, cap, rfl, fun _ => ⟨b, rfl, h⟩⟩

end Go.Proofs.Ybulkie
