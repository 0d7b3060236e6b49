/-
  THE STATE OF (*subsets).dfa (function 14), and what it leaves.
-/
import Derived.Test.YbulkieMoves
import Derived.Test.YbulkieClone
import Derived.Test.YbulkieGrow
import Derived.Test.YbulkieNew
namespace Go.Proofs.Ybulkie
open Go.RowKit Go.Maps

/-- THE STATE OF dfa BEHIND i ROUNDS. -/
structure Dst (N K : Nat) (E : List (Nat × Nat × Nat)) (c0 fin : Nat) (w0 w : World) (H : Nat → Option (Nat × Obj)) (F : Nat → Option (Array Value × TypeId)) (sb nb lb fb : Nat) (sy lim : Value) (db nmb i : Nat) (ov : Value) (s : Sv) (M : Int) (ms : List Value) (dn df : Value) : Prop where
  cls : Cls N E w0 w H F sb nb s (Plain.bfs N K E c0 i).1 M ms
  tg : Tg K H s (fun _ => [])
  ord : RowV (H 16) 3 1 ov (Plain.bfs N K E c0 i).1.length (ints (List.range (Plain.bfs N K E c0 i).1.length))
  num : ∃ n g, MapV 3 (H 17) nmb n g ∧ (∀ x : Nat, x ≤ 1000 → g (.int .i64 (x : Int)) = if x < (Plain.bfs N K E c0 i).1.length then some (x : Int) else none) ∧ n ≤ (Plain.bfs N K E c0 i).1.length
  d : H 18 = some (db, .cells #[sy, dn, df] 104 (0, 0))
  next : ∃ nvs, RowV (H 19) 78 1 dn i nvs ∧ ∀ (j : Nat) row, (Plain.bfs N K E c0 i).2[j]? = some row → ∃ v, nvs[j]? = some v ∧ RoRow F 81 3 v row.length (rwCells row)
  final : RowV (H 20) 4 1 df i (((Plain.bfs N K E c0 i).1.take i).map (fun m => Value.bool (m.testBit fin)))
  log : ∃ al cl lvs, H 22 = some (lb, .cells #[.slice al i cl] 88 (0, 0)) ∧ RowV (H 23) 89 1 (.slice al i cl) i lvs ∧ SetsIs N F ((Plain.bfs N K E c0 i).1.take i) lvs
  fin : H 24 = some (fb, .cells #[.int .i64 (fin : Int)] 3 (0, 0))
  ile : i ≤ (Plain.bfs N K E c0 i).1.length
  mle : M ≤ 10 + 4 * i
  nils : ∀ x, i ≤ x → x < (Plain.bfs N K E c0 i).1.length → ms[x]? = some (.slice none 0 0)
  pass : s.syms = sy ∧ s.limit = lim

/-- THE STATE WHILE A ROW IS NUMBERED. -/
structure Lst (w0 wr : World) (HX : Nat → Option (Nat × Obj)) (F : Nat → Option (Array Value × TypeId)) (nmb L : Nat) (ov : Value) (HI : Nat → Option (Nat × Obj)) : Prop where
  st : St w0 wr HI F
  keep : ∀ r, r ≠ 16 → r ≠ 17 → r ≠ 40 → HI r = HX r
  ord : RowV (HI 16) 3 1 ov L (ints (List.range L))
  num : ∃ n g, MapV 3 (HI 17) nmb n g ∧ (∀ x : Nat, x ≤ 1000 → g (.int .i64 (x : Int)) = if x < L then some (x : Int) else none) ∧ n ≤ L

theorem rwCells_get : ∀ (l : List (Nat × Nat)) (j : Nat) (t y : Nat), l[j]? = some (t, y) → (rwCells l)[j * 3]? = some (.int .i64 (t : Int)) ∧ (rwCells l)[j * 3 + 1]? = some (.int .i64 (y : Int)) ∧ (rwCells l)[j * 3 + 2]? = some (.int .u8 0)
  | [], j, t, y, h => by cases h
  | p :: l, 0, t, y, h => by
    simp only [List.getElem?_cons_zero, Option.some.injEq] at h
    subst h
    exact ⟨rfl, rfl, rfl⟩
  | p :: l, j + 1, t, y, h => by
    rw [List.getElem?_cons_succ] at h
    have ih := rwCells_get l j t y h
    have e : rwCells (p :: l) = [.int .i64 (p.1 : Int), .int .i64 (p.2 : Int), .int .u8 0] ++ rwCells l := rfl
    rw [e]
    have e1 : (j + 1) * 3 = (j * 3) + 3 := by omega
    rw [e1]
    refine ⟨?_, ?_, ?_⟩
    · rw [List.getElem?_append_right (by simp)]; simpa using ih.1
    · rw [List.getElem?_append_right (by simp)]; simpa using ih.2.1
    · rw [List.getElem?_append_right (by simp)]; simpa using ih.2.2

theorem Lst.newm {w0 wr w2 : World} {HX : Nat → Option (Nat × Obj)} {F : Nat → Option (Array Value × TypeId)} {nmb L : Nat} {ov : Value} {HI : Nat → Option (Nat × Obj)} {x : Option (Nat × Obj)} (h : Lst w0 wr HX F nmb L ov HI) (hst : St w0 w2 (upd HI 40 x) F) : Lst w0 w2 HX F nmb L ov (upd HI 40 x) :=
  ⟨hst, fun r a b c => by rw [upd_other _ _ c]; exact h.keep r a b c, by rw [upd_other _ _ (by decide)]; exact h.ord, by rw [upd_other _ _ (by decide)]; exact h.num⟩

/-- A store of what is there. -/
theorem RowV.same {h : Option (Nat × Obj)} {e : TypeId} {size b n cap : Nat} {xs : List Value} (hr : RowV h e size (.slice (some ⟨b, 0, none⟩) n cap) n xs) {k : Nat} {u : Value} (hk : xs[k]? = some u) :
    ∃ cur, h = some (b, .cells cur e (0, 0)) ∧ cur.setIfInBounds k u = cur := by
  rcases hr.2 with ⟨h1, _, _⟩ | ⟨g, cap', cur, h1, h2, h3, h4, h5, h6⟩
  · cases h1
  · cases h2
    refine ⟨cur, h1, ?_⟩
    have hl : k < (cur.toList.take (n * size)).length := by rw [h6]; exact (List.getElem?_eq_some_iff.1 hk).1
    have h7 : cur[k]? = some u := by
      rw [← h6, List.getElem?_take_of_lt (by simp at hl; omega)] at hk
      simpa using hk
    obtain ⟨h8, h9⟩ := Array.getElem?_eq_some_iff.1 h7
    rw [← h9, Array.setIfInBounds_def, dif_pos h8, Array.set_getElem_self]

/-- What dfa leaves. -/
def DPost (N K : Nat) (E : List (Nat × Nat × Nat)) (c0 fin lim : Nat) (w0 : World) (H : Nat → Option (Nat × Obj)) (F : Nat → Option (Array Value × TypeId)) (sb nb lb fb : Nat) (sy : Value) (e : Ending) (w' : World) : Prop :=
  (e = .returned (.tuple #[.pointer none, .bool false]) ∧ ∃ i, (∀ j, j ≤ i → j < (Plain.bfs N K E c0 j).1.length) ∧ lim < (Plain.bfs N K E c0 i).1.length ∧ ∃ H' F', St w0 w' H' F' ∧ FLe F F' ∧ ∀ r, 24 < r → r ≠ 40 → H' r = H r) ∨
  ∃ db nmb n ov s M ms dn df H' F', e = .returned (.tuple #[.pointer (some ⟨db, 0, none⟩), .bool true]) ∧ (∀ j, j < n → j < (Plain.bfs N K E c0 j).1.length) ∧ (Plain.bfs N K E c0 n).1.length = n ∧ n ≤ lim ∧
    Dst N K E c0 fin w0 w' H' F' sb nb lb fb sy (.int .i64 (lim : Int)) db nmb n ov s M ms dn df ∧ FLe F F' ∧ ∀ r, 24 < r → r ≠ 40 → H' r = H r

theorem keyI (x : Nat) (h : x ≤ 1000) : keyOf Yba.prog 3 (.int .i64 (x : Int)) = some (.int .i64 (x : Int)) := Go.Maps.keyOf_int_mk Yba.underlying3 (wf_small (by omega) (by omega))
theorem keyI_key (x : Int) : WideAt.IsKeyLit (.int .i64 x) := trivial

theorem Cls.moveF {N : Nat} {E : List (Nat × Nat × Nat)} {w0 w w' : World} {H H' : Nat → Option (Nat × Obj)} {F F' : Nat → Option (Array Value × TypeId)} {sb nb : Nat} {s : Sv} {S : List Nat} {M : Int} {ms : List Value}
    (h : Cls N E w0 w H F sb nb s S M ms) (hst : St w0 w' H' F') (hf : FLe F F') (e : ∀ r, r < 10 → H' r = H r) : Cls N E w0 w' H' F' sb nb s S M ms := by
  refine ⟨hst, ?_, h.nptr, h.nfa.mono hf, ?_, ?_, ?_, ?_, ?_, ?_, ?_, h.marks, ?_⟩
  · rw [e 1 (by decide)]; exact h.fields
  · rw [e 2 (by decide)]; exact h.start
  · rw [e 3 (by decide)]; exact h.stack
  · rw [e 4 (by decide)]; exact h.reached
  · rw [e 5 (by decide)]; exact h.key
  · rw [e 6 (by decide)]
    obtain ⟨vs, h1, h2⟩ := h.sets
    exact ⟨vs, h1, h2.mono hf⟩
  · rw [e 7 (by decide)]; exact h.moves
  · rw [e 8 (by decide)]; exact h.mark
  · rw [e 9 (by decide)]; exact h.index

theorem range_get {i L : Nat} (h : i < L) : (ints (List.range L))[i]? = some (.int .i64 (i : Int)) := by simp [ints, h]

theorem get_prefix {α : Type} {l l' : List α} (h : l <+: l') {i : Nat} {x : α} (hi : l[i]? = some x) : l'[i]? = some x := by
  obtain ⟨t, rfl⟩ := h
  rw [List.getElem?_append_left (List.getElem?_eq_some_iff.1 hi).1]; exact hi

theorem take_prefix {α : Type} {l l' : List α} (h : l <+: l') {i : Nat} {x : α} (hi : l[i]? = some x) : l'.take (i + 1) = l.take i ++ [x] := by
  rw [take_snoc (get_prefix h hi)]
  obtain ⟨t, rfl⟩ := h
  rw [List.take_append_of_le_length (Nat.le_of_lt (List.getElem?_eq_some_iff.1 hi).1)]

theorem ro_sets {F : Nat → Option (Array Value × TypeId)} {N m : Nat} {S : List Nat} {vs : List Value} (h : SetsIs N F S vs) {i : Nat} (hi : S[i]? = some m) : ∃ a c, vs[i]? = some (.slice a (Plain.elems N m).length c) ∧
    Hid (RoRow0 F 3 1 (.slice a (Plain.elems N m).length c) (Plain.elems N m).length (ints (Plain.elems N m))) := by
  obtain ⟨v, h1, h2⟩ := h.2 i m hi
  obtain ⟨a, c, rfl, h3⟩ := h2.sl
  exact ⟨a, c, h1, h2⟩

theorem SetsIs.snoc {N : Nat} {F F' : Nat → Option (Array Value × TypeId)} {S : List Nat} {vs : List Value} (h : SetsIs N F S vs) (hf : FLe F F') {m : Nat} {v : Value} (hv : RoRow0 F' 3 1 v (Plain.elems N m).length (ints (Plain.elems N m))) : SetsIs N F' (S ++ [m]) (vs ++ [v]) := by
  refine ⟨by simp [h.1], fun i x hi => ?_⟩
  by_cases hl : i < S.length
  · rw [List.getElem?_append_left hl] at hi
    obtain ⟨u, h1, h2⟩ := h.2 i x hi
    exact ⟨u, by rw [List.getElem?_append_left (by rw [h.1]; exact hl)]; exact h1, h2.mono hf⟩
  · have e : i = S.length := by
      have := (List.getElem?_eq_some_iff.1 hi).1
      simp at this
      omega
    subst e
    simp at hi
    subst hi
    exact ⟨v, by rw [← h.1]; simp, hv⟩

theorem info4 : (Yba.prog.info? 4).map (fun i => (i.zero, i.size, i.bytes)) = some (some (.bool false), 1, 1) := by kernel_rfl
theorem one_bool (b : Bool) : ∀ u ∈ [Value.bool b], u.oneCell' = true := by
  intro u hu
  simp only [List.mem_cons, List.not_mem_nil, or_false] at hu
  subst hu; rfl

end Go.Proofs.Ybulkie
