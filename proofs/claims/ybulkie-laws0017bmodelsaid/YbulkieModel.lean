/-
  THE LAW's MODEL: the room of its own search, and slices.Index of it.
-/
import Derived.Test.YbulkieParts
import Derived.Test.YbulkieShelf
namespace Go.Proofs.Ybulkie
open Go.RowKit Go.Maps

def u32s (l : List Nat) : List Value := l.map (fun q : Nat => Value.int .u32 (q : Int))
theorem u32s_get {l : List Nat} {i m : Nat} (h : l[i]? = some m) : (u32s l)[i]? = some (.int .u32 (m : Int)) := by simp [u32s, h]
theorem u32s_snoc (l : List Nat) (m : Nat) : u32s (l ++ [m]) = u32s l ++ [.int .u32 (m : Int)] := by simp [u32s]
theorem one_u32 (x : Int) : ∀ u ∈ [Value.int .u32 x], u.oneCell' = true := ints_oneCell .u32 [x]
theorem info92 : (Yba.prog.info? 92).map (fun i => (i.zero, i.size, i.bytes)) = some (some (.int .u32 0), 1, 4) := by kernel_rfl

/-- THE STATE OF THE MODEL's SEARCH BEHIND i ROUNDS. -/
structure Mod (N K : Nat) (E : List (Nat × Nat × Nat)) (c0 : Nat) (w wr : World) (HA : Nat → Option (Nat × Obj)) (FA : Nat → Option (Array Value × TypeId)) (i : Nat) (ov rv : Value) (H : Nat → Option (Nat × Obj)) (F : Nat → Option (Array Value × TypeId)) : Prop where
  st : St w wr H F
  fle : FLe FA F
  keep : ∀ r, r ≠ 30 → r ≠ 31 → r ≠ 32 → H r = HA r
  ord : RowV (H 30) 92 1 ov (Plain.bfs N K E c0 i).1.length (u32s (Plain.bfs N K E c0 i).1)
  rows : ∃ rvs, RowV (H 31) 78 1 rv i rvs ∧ ∀ (j : Nat) row, (Plain.bfs N K E c0 i).2[j]? = some row → ∃ v, rvs[j]? = some v ∧ RoRow0 F 81 3 v row.length (rwCells row)
  row : H 32 = none

/-- THE STATE WHILE ONE ROW IS BUILT. -/
structure Inn (w wr : World) (HX : Nat → Option (Nat × Obj)) (FX : Nat → Option (Array Value × TypeId)) (p : List Nat × List (Nat × Nat)) (ov rv : Value) (H : Nat → Option (Nat × Obj)) : Prop where
  st : St w wr H FX
  keep : ∀ r, r ≠ 30 → r ≠ 32 → H r = HX r
  ord : RowV (H 30) 92 1 ov p.1.length (u32s p.1)
  row : RowV (H 32) 81 3 rv p.2.length (rwCells p.2)

theorem Inn.weak {w wr w2 : World} {HX : Nat → Option (Nat × Obj)} {FX : Nat → Option (Array Value × TypeId)} {p : List Nat × List (Nat × Nat)} {ov rv : Value} {H : Nat → Option (Nat × Obj)} (h : Inn w wr HX FX p ov rv H) (hb : Below wr.heap.size wr w2) : Inn w w2 HX FX p ov rv H :=
  ⟨h.st.weak hb, h.keep, h.ord, h.row⟩

/-- A role's row, nil or not, is written no more. -/
theorem RowV.freeze0 {w0 w : World} {H : Nat → Option (Nat × Obj)} {F : Nat → Option (Array Value × TypeId)} {r : Nat} {e : TypeId} {size : Nat} {v : Value} {n : Nat} {xs : List Value} (hr : RowV (H r) e size v n xs) (hst : St w0 w H F) (hp : 0 < r) :
    ∃ F', St w0 w (upd H r none) F' ∧ FLe F F' ∧ RoRow0 F' e size v n xs := by
  by_cases hv : v = .slice none 0 0
  · refine ⟨F, hst.drop hp, FLe.refl _, Or.inl ?_⟩
    rcases hr.2 with ⟨_, h2, _⟩ | ⟨b, cap, cur, _, h2, _⟩
    · exact ⟨hv, h2, List.length_eq_zero_iff.1 (by have := hr.1; rw [h2] at this; simpa using this)⟩
    · rw [hv] at h2; cases h2
  · obtain ⟨F', h1, h2, h3⟩ := hr.freeze hst hv
    exact ⟨F', h1, h2, Or.inr h3⟩

/-- Where a set stands among the sets. -/
def idxI (S : List Nat) (t : Nat) : Int := if t ∈ S then (S.idxOf t : Nat) else -1

theorem idxBy_sets (S : List Nat) (t : Nat) : Lib.idxBy (fun x y : Int => x == y) (S.map (fun q : Nat => (q : Int))) (t : Int) = idxI S t := by
  have key : ∀ (S : List Nat) (i : Nat), Lib.idxByFrom (fun x y : Int => x == y) (t : Int) (S.map (fun q : Nat => (q : Int))) i = if t ∈ S then ((i + S.idxOf t : Nat) : Int) else -1 := by
    intro S
    induction S with
    | nil => intro i; rfl
    | cons a S ih =>
      intro i
      show (if ((t : Int) == (a : Int)) = true then (i : Int) else Lib.idxByFrom (fun x y : Int => x == y) (t : Int) (S.map (fun q : Nat => (q : Int))) (i + 1)) = _
      by_cases h : t = a
      · subst h
        simp
      · have h1 : ¬ ((t : Int) == (a : Int)) = true := by simp; omega
        rw [if_neg h1, ih]
        have h2 : (a == t) = false := by simp; omega
        by_cases hm : t ∈ S
        · rw [if_pos hm, if_pos (List.mem_cons_of_mem _ hm), List.idxOf_cons, h2]
          simp only [cond_false]
          omega
        · rw [if_neg hm, if_neg]
          simp [h, hm]
  unfold Lib.idxBy idxI
  rw [key S 0]
  simp

/-- slices.Index of the sets found. -/
theorem index_any {w0 w : World} {H : Nat → Option (Nat × Obj)} {F : Nat → Option (Array Value × TypeId)} (hst : Hid (St w0 w H F)) (b c : Nat) (S : List Nat) (hr : Hid (RowV (H 30) 92 1 (.slice (some ⟨b, 0, none⟩) S.length c) S.length (u32s S))) (hl : S.length ≤ 1000) (t : Nat) :
    Calls Yba.prog 17 #[.slice (some ⟨b, 0, none⟩) S.length c, .int .u32 (t : Int)] w fun e w' => e = .returned (.int .i64 (idxI S t)) ∧ w' = w := by
  refine (Yba.slices_Index (Value.int .u32) (fun x y : Int => x == y) (Go.Proofs.EqlAt.int _ _ .u32) b 0 S.length c (S.map (fun q : Nat => (q : Int))) (t : Int) w (by simp) (by omega) ?_).mono ?_
  · intro j hj
    rw [List.length_map] at hj
    rw [Nat.zero_add]
    refine (unhide hr).cell (unhide hst) ?_
    rw [u32s_get (List.getElem?_eq_getElem hj)]
    simp [hj]
  · rintro e w' ⟨rfl, rfl⟩
    refine ⟨?_, rfl⟩
    rw [List.take_of_length_le (by simp), idxBy_sets]

end Go.Proofs.Ybulkie
