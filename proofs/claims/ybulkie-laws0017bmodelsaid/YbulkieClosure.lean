/-
  THE CLOSURE OF A SET OF STATES: (*subsets).closure (function 32), walked whole: it returns the number of the set that the moves that read nothing reach.
-/
import Derived.Test.YbulkieCl
import Derived.Test.YbulkieOwn
import Derived.Test.YbulkieStep
import Derived.Deep.RegionLaw
import Derived.Deep.CutRange
import Derived.BigQuiet
import Derived.Deep.QuietTactic
import Derived.RegionTactic
import Derived.BigRegion
import Derived.WalkSmall
import Derived.Maps.AppendAt
import Derived.Deep.Cut
namespace Go.Proofs.Ybulkie
open Go.RowKit Go.Maps

/-- ALL THAT A closure WORKS ON. -/
structure Cls (N : Nat) (E : List (Nat × Nat × Nat)) (w0 w : World) (H : Nat → Option (Nat × Obj)) (F : Nat → Option (Array Value × TypeId)) (sb nb : Nat) (s : Sv) (S : List Nat) (M : Int) (ms : List Value) : Prop where
  st : St w0 w H F
  fields : H 1 = some (sb, .cells s.arr 91 (0, 0))
  nptr : s.n = .pointer (some ⟨nb, 0, none⟩)
  nfa : Nfa N E F nb
  start : ∃ n xs, RowV (H 2) 3 1 s.start n xs
  stack : ∃ n xs, RowV (H 3) 3 1 s.stack n xs
  reached : ∃ n xs, RowV (H 4) 3 1 s.reached n xs
  key : ∃ n xs, RowV (H 5) 5 1 s.key n xs
  sets : ∃ vs, RowV (H 6) 89 1 s.sets S.length vs ∧ SetsIs N F S vs
  moves : RowV (H 7) 78 1 s.moves S.length ms
  mark : ∃ kb mk A, H 8 = some (kb, .cells mk 3 (0, 0)) ∧ s.mark = .slice (some ⟨kb, 0, none⟩) N N ∧ MarkIs mk N M A
  marks : s.marks = .int .i64 M ∧ 0 ≤ M
  index : ∃ mb n g, s.index = .map (some mb) ∧ MapV 9 (H 9) mb n g ∧ KeyInv N E S g ∧ (n : Int) ≤ 2 * M

theorem Cls.turn125 {N : Nat} {E : List (Nat × Nat × Nat)} {w0 w w' : World} {H H' : Nat → Option (Nat × Obj)} {F : Nat → Option (Array Value × TypeId)} {sb nb : Nat} {s s' : Sv} {S : List Nat} {M : Int} {ms : List Value} {v2 v5 : Value}
    (h : Cls N E w0 w H F sb nb s S M ms) (hst : St w0 w' H' F) (e1 : H' 1 = some (sb, .cells s'.arr 91 (0, 0))) (hs : s' = { s with start := v2, key := v5 }) (r2 : ∃ n xs, RowV (H' 2) 3 1 v2 n xs) (r5 : ∃ n xs, RowV (H' 5) 5 1 v5 n xs)
    (e : ∀ r, r ≠ 1 → r ≠ 2 → r ≠ 5 → H' r = H r) : Cls N E w0 w' H' F sb nb s' S M ms := by
  subst hs
  refine ⟨hst, e1, h.nptr, h.nfa, r2, ?_, ?_, r5, ?_, ?_, ?_, h.marks, ?_⟩
  · rw [e 3 (by decide) (by decide) (by decide)]; exact h.stack
  · rw [e 4 (by decide) (by decide) (by decide)]; exact h.reached
  · rw [e 6 (by decide) (by decide) (by decide)]; exact h.sets
  · rw [e 7 (by decide) (by decide) (by decide)]; exact h.moves
  · rw [e 8 (by decide) (by decide) (by decide)]; exact h.mark
  · rw [e 9 (by decide) (by decide) (by decide)]; exact h.index

/-- WHAT A closure LEAVES: the number of the closure of X; where it is new, it is the last set found. -/
def ClsPost (N : Nat) (E : List (Nat × Nat × Nat)) (w0 : World) (H : Nat → Option (Nat × Obj)) (F : Nat → Option (Array Value × TypeId)) (sb nb : Nat) (s : Sv) (S : List Nat) (M : Int) (ms : List Value) (X : Nat) (e : Ending) (w' : World) : Prop :=
  e = .returned (.int .i64 (S.idxOf (Plain.closeM N E X) : Nat)) ∧ ∃ H' F' s' M', Cls N E w0 w' H' F' sb nb s' (if Plain.closeM N E X ∈ S then S else S ++ [Plain.closeM N E X]) M' (if Plain.closeM N E X ∈ S then ms else ms ++ [.slice none 0 0]) ∧
    FLe F F' ∧ (∀ r, 9 < r → H' r = H r) ∧ M' ≤ M + 1 ∧ s'.syms = s.syms ∧ s'.limit = s.limit ∧ s'.targets = s.targets ∧ s'.read = s.read

theorem upd_in {α : Type} (f : Nat → α) {i j : Nat} (a b c : α) (h : i ≠ j) : upd (upd (upd f i a) j b) i c = upd (upd f i c) j b := by
  funext k
  unfold upd
  by_cases h1 : k = i
  · subst h1; simp [h]
  · by_cases h2 : k = j
    · subst h2; simp [h1]
    · simp [h1, h2]
theorem upd_in2 {α : Type} (f : Nat → α) {i j k : Nat} (a b c d : α) (h : i ≠ j) (h' : i ≠ k) : upd (upd (upd (upd f i a) j b) k c) i d = upd (upd (upd f i d) j b) k c := by
  funext l
  unfold upd
  by_cases h1 : l = i
  · subst h1; simp [h, h']
  · simp [h1]
theorem upd_self {α : Type} (f : Nat → α) (k : Nat) : upd f k (f k) = f := by funext j; unfold upd; split <;> simp_all
theorem upd_id {α : Type} (f : Nat → α) {k : Nat} {v : α} (h : f k = v) : upd f k v = f := by rw [← h]; exact upd_self f k

/-- A slice that holds an element begins at its block's head. -/
theorem RowV.head {h : Option (Nat × Obj)} {e : TypeId} {size : Nat} {a : Option Addr} {n c : Nat} {xs : List Value} (hr : RowV h e size (.slice a n c) n xs) (hn : 0 < n) : ∃ b, a = some ⟨b, 0, none⟩ := by
  rcases hr.shape with ⟨h1, h2⟩ | ⟨b, cap, h1⟩
  · omega
  · cases h1; exact ⟨b, rfl⟩

theorem ret_i64 {a b : Int} (h : a = b) : Ending.returned (.int .i64 a) = .returned (.int .i64 b) := by rw [h]

/-- 's[:0]' runs so. -/
theorem run_cut89 {h : Option (Nat × Obj)} {size : Nat} {v : Value} {n : Nat} {xs : List Value} (hr : RowV h 3 size v n xs) (w : World) : (Instr.slice 89 v none (some (.int .i64 0)) none).run Yba.prog w = .ok (cut0 v) w := by
  rcases hr.shape with ⟨rfl, _⟩ | ⟨b, cap, rfl⟩
  · show _ = Result.ok (Value.slice none 0 0) w
    go_simp
  · show _ = Result.ok (Value.slice (some ⟨b, 0, none⟩) 0 cap) w
    go_simp
theorem run_cut22 {h : Option (Nat × Obj)} {size : Nat} {v : Value} {n : Nat} {xs : List Value} (hr : RowV h 5 size v n xs) (w : World) : (Instr.slice 22 v none (some (.int .i64 0)) none).run Yba.prog w = .ok (cut0 v) w := by
  rcases hr.shape with ⟨rfl, _⟩ | ⟨b, cap, rfl⟩
  · show _ = Result.ok (Value.slice none 0 0) w
    go_simp
  · show _ = Result.ok (Value.slice (some ⟨b, 0, none⟩) 0 cap) w
    go_simp

theorem RowV.sl {h : Option (Nat × Obj)} {e : TypeId} {size : Nat} {v : Value} {n : Nat} {xs : List Value} (hr : RowV h e size v n xs) : ∃ a c, v = .slice a n c := by
  rcases hr.shape with ⟨rfl, rfl⟩ | ⟨b, cap, rfl⟩
  · exact ⟨none, 0, rfl⟩
  · exact ⟨_, cap, rfl⟩

theorem news_of {w : World} {fl : List Nat} {fb : Nat} (h : ∀ j, j < fl.length → w.cell? ⟨fb, j, none⟩ = some (.int .i64 (fl.getD j 0 : Nat))) : ∀ j u, (ints fl)[j]? = some u → w.cell? ((⟨fb, 0, none⟩ : Addr).add j) = some u := by
  intro j u hj
  have hjl : j < fl.length := by
    have := (List.getElem?_eq_some_iff.1 hj).1
    simpa [ints] using this
  rw [Go.WideShapes.add_plain, Nat.zero_add, h j hjl]
  rw [ints, getInt fl j hjl] at hj
  exact hj

theorem ints_one (l : List Nat) : ∀ u ∈ ints l, u.oneCell' = true := by
  rw [ints_cast]; exact ints_oneCell .i64 _

theorem ints_length (l : List Nat) : (ints l).length = l.length * 1 := by simp [ints]

theorem upd_idle {α : Type} (f : Nat → α) {i j : Nat} (v : α) (h : i ≠ j) : upd (upd f i v) j (f j) = upd f i v := by
  funext k
  unfold upd
  by_cases h1 : k = j
  · subst h1; have : ¬ k = i := fun e => h e.symm; simp [this]
  · simp [h1]

theorem RowV.cap {h : Option (Nat × Obj)} {e : TypeId} {size : Nat} {a : Option Addr} {n m c : Nat} {xs : List Value} (hr : RowV h e size (.slice a n c) m xs) : n ≤ c := by
  rcases hr.2 with ⟨h1, _, _⟩ | ⟨b, cap, cur, h1, h2, h3, _⟩
  · cases h1; exact Nat.le_refl _
  · cases h2; exact h3

theorem RowV.pop {h : Option (Nat × Obj)} {e : TypeId} {a : Option Addr} {n c : Nat} {xs : List Value} {x : Value} (hr : RowV h e 1 (.slice a (n + 1) c) (n + 1) (xs ++ [x])) : RowV h e 1 (.slice a n c) n xs := by
  have hl : xs.length = n := by have := hr.1; simp at this; exact this
  refine ⟨by omega, ?_⟩
  rcases hr.2 with ⟨h1, h2, h3⟩ | ⟨b, cap, cur, h1, h2, h3, h4, h5, h6⟩
  · cases h2
  · cases h2
    refine Or.inr ⟨b, c, cur, h1, rfl, by omega, h4, h5, ?_⟩
    have := congrArg (List.take n) h6
    rw [List.take_take, List.take_left' hl] at this
    rw [Nat.mul_one]
    rw [Nat.mul_one, Nat.min_eq_left (by omega)] at this
    exact this

/-- The lowest and the highest state reached. -/
def Rng (N : Nat) (lo hi : Int) (rch : List Nat) : Prop := 0 ≤ lo ∧ lo ≤ N ∧ -1 ≤ hi ∧ hi < N ∧ (rch.length = 0 → lo = N ∧ hi = -1) ∧ (rch.length ≤ 1 → hi ≤ lo) ∧ ∀ q ∈ rch, lo ≤ (q : Int) ∧ (q : Int) ≤ hi

theorem Rng.snoc {N : Nat} {lo hi : Int} {rch : List Nat} {q : Nat} (h : Rng N lo hi rch) (hq : q < N) : Rng N (min lo q) (max hi q) (rch ++ [q]) := by
  obtain ⟨h1, h2, h3, h4, h5, h6, h7⟩ := h
  refine ⟨by omega, by omega, by omega, by omega, fun e => by simp at e, fun e => ?_, fun x hx => ?_⟩
  · have hl : rch.length = 0 := by simp at e; simp [e]
    have := h5 hl
    omega
  · rcases List.mem_append.1 hx with hx | hx
    · have := h7 x hx; omega
    · simp at hx; subst hx; omega

theorem ints_snoc (l : List Nat) (q : Nat) : ints (l ++ [q]) = ints l ++ [.int .i64 (q : Int)] := by simp [ints]

/-- The moves of one state, as 's.n.moves[q]' reads. -/
theorem Nfa.at {N : Nat} {E : List (Nat × Nat × Nat)} {w0 w : World} {H : Nat → Option (Nat × Obj)} {F : Nat → Option (Array Value × TypeId)} {nb q : Nat} (h : Nfa N E F nb) (hst : St w0 w H F) (hq : q < N) :
    ∃ mb av cv, w.cell? ⟨nb, 0, none⟩ = some (.slice (some ⟨mb, 0, none⟩) N N) ∧ w.cell? ⟨mb, q, none⟩ = some (.slice av (Plain.movesQ E q).length cv) ∧
      Hid (0 < (Plain.movesQ E q).length → ∃ vb, av = some ⟨vb, 0, none⟩ ∧ RoRow F 81 3 (.slice (some ⟨vb, 0, none⟩) (Plain.movesQ E q).length cv) (Plain.movesQ E q).length (mvCells (Plain.movesQ E q))) := by
  obtain ⟨mb, rows, h1, h2, h3, h4⟩ := h.ex
  obtain ⟨v, hv, h5⟩ := h4 q hq
  have c1 : w.cell? ⟨nb, 0, none⟩ = some (.slice (some ⟨mb, 0, none⟩) N N) := hst.cellRo h1 rfl
  have c2 : w.cell? ⟨mb, q, none⟩ = some v := hst.cellRo h2 hv
  rcases h5 with ⟨rfl, h6⟩ | h6
  · exact ⟨mb, none, 0, c1, by rw [h6]; exact c2, hide (fun h => by rw [h6] at h; cases h)⟩
  · obtain ⟨g1, b, cap, cc, g2, g3⟩ := h6
    subst g2
    exact ⟨mb, _, cap, c1, c2, hide (fun _ => ⟨b, rfl, g1, b, cap, cc, rfl, g3⟩)⟩

theorem mvCells_get : ∀ (l : List (Nat × Nat)) (j : Nat) (t y : Nat), l[j]? = some (t, y) → (mvCells l)[j * 3]? = some (.int .i64 (t : Int)) ∧ (mvCells l)[j * 3 + 1]? = some (.int .i64 ((y : Int) - 1)) ∧ (mvCells l)[j * 3 + 2]? = some (.int .u8 0)
  | [], j, t, y, h => by cases h
  | p :: l, 0, t, y, h => by
    simp only [List.getElem?_cons_zero, Option.some.injEq] at h
    subst h
    exact ⟨rfl, rfl, rfl⟩
  | p :: l, j + 1, t, y, h => by
    rw [List.getElem?_cons_succ] at h
    have ih := mvCells_get l j t y h
    have e : mvCells (p :: l) = [.int .i64 (p.1 : Int), .int .i64 ((p.2 : Int) - 1), .int .u8 0] ++ mvCells l := rfl
    rw [e]
    have e1 : (j + 1) * 3 = (j * 3) + 3 := by omega
    rw [e1]
    refine ⟨?_, ?_, ?_⟩
    · rw [List.getElem?_append_right (by simp)]; simpa using ih.1
    · rw [List.getElem?_append_right (by simp)]; simpa using ih.2.1
    · rw [List.getElem?_append_right (by simp)]; simpa using ih.2.2

theorem drop_cons {α : Type} {l : List α} {j : Nat} {x : α} (h : l[j]? = some x) : l.drop j = x :: l.drop (j + 1) := by
  obtain ⟨h1, h2⟩ := List.getElem?_eq_some_iff.1 h
  rw [List.drop_eq_getElem_cons h1, h2]

theorem cell_alloc_new (w : World) (c : Array Value) (t : TypeId) {j : Nat} {v : Value} (h : c[j]? = some v) : (w.alloc (.cells c t (0, 0))).cell? ⟨w.heap.size, j, none⟩ = some v := by
  have : (w.alloc (.cells c t (0, 0))).heap[w.heap.size]? = some (.cells c t (0, 0)) := by show (w.heap.push _)[w.heap.size]? = _; simp
  unfold World.cell?
  simp only [this]
  exact h
theorem cell_set_ne {w : World} {b b' j j' : Nat} {v u : Value} (hn : b ≠ b') (h : w.cell? ⟨b', j', none⟩ = some u) : (w.setCell ⟨b, j, none⟩ v).cell? ⟨b', j', none⟩ = some u := by
  have := Below.heap_setCell w ⟨b, j, none⟩ v b' (fun e => hn e.symm)
  unfold World.cell? at h ⊢
  simp only [this]
  exact h

theorem elems_succ (k A : Nat) : Plain.elems (k + 1) A = if A.testBit k = true then Plain.elems k A ++ [k] else Plain.elems k A := by
  unfold Plain.elems
  rw [List.range_succ, List.filter_append]
  by_cases h : A.testBit k = true
  · simp [h]
  · simp [h]

theorem elems_none {k A : Nat} (h : ∀ q, A.testBit q = true → k ≤ q) : Plain.elems k A = [] := by
  refine List.eq_nil_iff_forall_not_mem.2 fun q hq => ?_
  have := Plain.mem_elems.1 hq
  have := h q this.2
  omega

theorem elems_all {N A : Nat} : ∀ {k : Nat}, k ≤ N → (∀ q, q < N → A.testBit q = true → q < k) → Plain.elems k A = Plain.elems N A := by
  induction N with
  | zero => intro k hk _; rw [Nat.le_zero.1 hk]
  | succ n ih =>
    intro k hk h
    by_cases e : k = n + 1
    · rw [e]
    · rw [elems_succ, if_neg (fun hb => by have := h n (by omega) hb; omega)]
      exact ih (by omega) (fun q hq hb => h q (by omega) hb)

set_option maxRecDepth 100000 in
set_option maxHeartbeats 8000000 in
theorem closure_any {N : Nat} {E : List (Nat × Nat × Nat)} {w0 w : World} {H : Nat → Option (Nat × Obj)} {F : Nat → Option (Array Value × TypeId)} {sb nb : Nat} {s : Sv} {S : List Nat} {M : Int} {ms : List Value}
    (hC : Hid (Cls N E w0 w H F sb nb s S M ms)) (hN0 : 0 < N) (hN : N ≤ 8) (fl : List Nat) (hfl : Hid (∀ q ∈ fl, q < N)) (hlen : fl.length ≤ 256) (fb c : Nat) (hfc : Hid (∀ j, j < fl.length → w.cell? ⟨fb, j, none⟩ = some (.int .i64 (fl.getD j 0 : Nat)))) (hM : M ≤ 100000) (hE : Hid (∀ e ∈ E, e.2.1 < N)) (HML : Hid (∀ q, (Plain.movesQ E q).length ≤ 256)) :
    Calls Yba.prog 32 #[.pointer (some ⟨sb, 0, none⟩), .slice (some ⟨fb, 0, none⟩) fl.length c] w (ClsPost N E w0 H F sb nb s S M ms (Plain.maskOf fl)) := by
  obtain ⟨i0, hi, hz0, hz1, hz2⟩ := info_parts info3
  have hC' := unhide hC
  obtain ⟨n2, xs2, r2⟩ := hC'.start
  have c8 : w.cell? ⟨sb, 8, none⟩ = some s.start := hC'.st.cell hC'.fields rfl
  have k8 := run_cut89 r2
  have HR2 := hide r2.cut
  have hst := hide hC'.st
  have hnw := hide (news_of (unhide hfc))
  clear r2 hC'
  go_enter Yba.func32, Yba.ntmps32
  go_wp2_with (at_builtin; refine wpList_append_st (w0 := w0) (H := H) (F := F) _ rfl (.tmp 25) (.tmp 26) 89 rfl 2 (by decide) 3 i0 (.int .i64 0) 1 8 Yba.underlying89 hi hz0 hz1 hz2 rfl (by decide) (cut0 s.start) 0 [] rfl (unhide hst) (unhide HR2) ⟨fb, 0, none⟩ fl.length c (ints fl) rfl (ints_length fl) (unhide hnw) (ints_one fl) (by unfold maxLen; omega) (by omega) ?_; intro v1 w1 h1 hst1 hrow1 hnil1)
  clear k8 c8 HR2 hst hnw hnil1
  rw [List.nil_append, Nat.zero_add] at hrow1
  have hr1 : RowV ((upd H 2 h1) 2) 3 1 v1 (castI fl).length ((castI fl).map (Value.int .i64)) := by
    rw [upd_same, ← ints_cast]; simpa [castI] using unhide hrow1
  refine (sort_st (unhide hst1) 2 (by decide) v1 (castI fl) (by simp [castI]; omega) hr1).mono ?_
  rintro e w2 ⟨rfl, h2, hst2, hrow2⟩
  rw [upd_upd] at hst2
  have HS2 := hide hst2
  have HR2 := hide hrow2
  clear hst2 hrow2 hr1 hst1 hrow1
  go_wp2_with fail
  have hr2 : RowV ((upd H 2 h2) 2) 3 1 v1 ((castI fl).mergeSort fun x y => decide (x ≤ y)).length (((castI fl).mergeSort fun x y => decide (x ≤ y)).map (Value.int .i64)) := by
    rw [upd_same, List.length_mergeSort]; exact unhide HR2
  refine (compact_st (unhide HS2) 2 (by decide) v1 _ (by rw [List.length_mergeSort]; simp [castI]; omega) hr2).mono ?_
  rintro e w3 ⟨v3, h3, rfl, hst3, hrow3⟩
  rw [upd_upd] at hst3
  rw [sort_compact fl (unhide hfl), ← ints_cast] at hrow3
  have HS3 := hide hst3
  have HR3 : Hid (RowV h3 3 1 v3 (Plain.elems N (Plain.maskOf fl)).length (ints (Plain.elems N (Plain.maskOf fl)))) := hide (by simpa [castI] using hrow3)
  clear hst3 hrow3 hr2 HS2 HR2
  obtain ⟨X, hX⟩ : ∃ X, X = Plain.maskOf fl := ⟨_, rfl⟩
  rw [← hX] at HR3
  have HX := hide hX
  clear hX
  obtain ⟨a3, d3, hv3⟩ := (unhide HR3).sl
  subst hv3
  -- s.start = start
  have hC' := unhide hC
  have f1 : (upd H 2 h3) 1 = some (sb, .cells s.arr 91 (0, 0)) := by rw [upd_other _ _ (by decide)]; exact hC'.fields
  obtain ⟨n5, xs5, r5⟩ := hC'.key
  have c8 : w3.cell? ⟨sb, 8, none⟩ = some s.start := (unhide HS3).cell f1 rfl
  have z8 : w3.frozen? ⟨sb, 8, none⟩ = false := (unhide HS3).frozen f1 8
  have c11 : w3.cell? ⟨sb, 11, none⟩ = some s.key := (unhide HS3).cell f1 rfl
  have k11 := run_cut22 r5
  have HK5 := hide r5.cut
  obtain ⟨s4, hs4⟩ : ∃ s4 : Sv, s4 = { s with start := .slice a3 (Plain.elems N X).length d3 } := ⟨_, rfl⟩
  obtain ⟨H4, hH4⟩ : ∃ H4, H4 = upd (upd H 2 h3) 1 (some (sb, .cells s4.arr 91 (0, 0))) := ⟨_, rfl⟩
  have HS4 : Hid (St w0 (w3.setCell ⟨sb, 8, none⟩ (.slice a3 (Plain.elems N X).length d3)) H4 F) := hide (by rw [hH4, hs4]; exact (unhide HS3).set f1 8 (.slice a3 (Plain.elems N X).length d3))
  have e41 : Hid (H4 1 = some (sb, .cells s4.arr 91 (0, 0))) := hide (by rw [hH4, upd_same])
  have e42 : Hid (H4 2 = h3) := hide (by rw [hH4, upd_other _ _ (by decide), upd_same])
  have e4 : Hid (∀ r, r ≠ 1 → r ≠ 2 → H4 r = H r) := hide (fun r a b => by rw [hH4, upd_other _ _ a, upd_other _ _ b])
  have HS4s := hide hs4
  clear r5 hC' hH4 hs4 HS3 f1
  go_wp2_with fail
  have hel : (Plain.elems N X).length ≤ 8 := by have := elems_len (N := N) (X := X); omega
  refine (key_any HS4 2 (by decide) (cut0 s.key) _ (Plain.elems N X).length (Plain.elems N X) (hide (fun q hq => by have := (Plain.mem_elems.1 hq).1; omega)) (hide rfl) (by omega) (hide (by rw [unhide e4 5 (by decide) (by decide)]; exact unhide HK5)) (hide (by rw [unhide e42]; exact unhide HR3))).mono ?_
  rintro e w5 ⟨kv, h5, rfl, hst5, hrow5⟩
  obtain ⟨a5, d5, hv5⟩ := hrow5.sl
  subst hv5
  have HS5 := hide hst5
  have HR5 := hide hrow5
  clear hst5 hrow5 c8 z8 c11 k11 HK5 HS4
  -- s.key = ..
  have f5 : (upd H4 5 h5) 1 = some (sb, .cells s4.arr 91 (0, 0)) := by rw [upd_other _ _ (by decide)]; exact unhide e41
  have c11 : w5.cell? ⟨sb, 11, none⟩ = some s4.key := (unhide HS5).cell f5 rfl
  have z11 : w5.frozen? ⟨sb, 11, none⟩ = false := (unhide HS5).frozen f5 11
  obtain ⟨s6, hs6⟩ : ∃ s6 : Sv, s6 = { s4 with key := .slice a5 (Plain.elems N X).length d5 } := ⟨_, rfl⟩
  obtain ⟨H6, hH6⟩ : ∃ H6, H6 = upd (upd H4 5 h5) 1 (some (sb, .cells s6.arr 91 (0, 0))) := ⟨_, rfl⟩
  have HS6 : Hid (St w0 (w5.setCell ⟨sb, 11, none⟩ (.slice a5 (Plain.elems N X).length d5)) H6 F) := hide (by rw [hH6, hs6]; exact (unhide HS5).set f5 11 (.slice a5 (Plain.elems N X).length d5))
  have e61 : Hid (H6 1 = some (sb, .cells s6.arr 91 (0, 0))) := hide (by rw [hH6, upd_same])
  have e62 : Hid (H6 2 = h3) := hide (by rw [hH6, upd_other _ _ (by decide), upd_other _ _ (by decide)]; exact unhide e42)
  have e65 : Hid (H6 5 = h5) := hide (by rw [hH6, upd_other _ _ (by decide), upd_same])
  have e6 : Hid (∀ r, r ≠ 1 → r ≠ 2 → r ≠ 5 → H6 r = H r) := hide (fun r a b c => by rw [hH6, upd_other _ _ a, upd_other _ _ c]; exact unhide e4 r a b)
  have HS6s : Hid (s6 = { s with start := .slice a3 (Plain.elems N X).length d3, key := .slice a5 (Plain.elems N X).length d5 }) := hide (by rw [hs6, unhide HS4s])
  clear hH6 hs6 f5 e41 e42 e4 HS4s HS5
  go_upto_region 6 with fail
  generalize w5.setCell ⟨sb, 11, none⟩ (.slice a5 (Plain.elems N X).length d5) = w6 at HS6 ⊢
  clear c11 z11
  have hC' := unhide hC
  obtain ⟨mb, mn, g, hidx, hmap, hkey, hmn⟩ := hC'.index
  have hm6 : MapV 9 (H6 9) mb mn g := by rw [unhide e6 9 (by decide) (by decide) (by decide)]; exact hmap
  obtain ⟨ks, hks⟩ : ∃ ks, ks = strOfNums (castI (Plain.elems N X)) := ⟨_, rfl⟩
  have hcv : ∀ nq, (convert 22 9 (.slice a5 (Plain.elems N X).length d5)).run Yba.prog (w6.drewN nq) = .ok (.string ks) (w6.drewN nq) := fun nq => by
    rw [hks]; exact key_run ((unhide HS6).drewN nq) (r := 5) (by rw [unhide e65]; exact unhide HR5)
  have hcv0 : (convert 22 9 (.slice a5 (Plain.elems N X).length d5)).run Yba.prog w6 = .ok (.string ks) w6 := by
    rw [hks]; exact key_run (unhide HS6) (r := 5) (by rw [unhide e65]; exact unhide HR5)
  have hkl : keyOf Yba.prog 9 (.string ks) = some (keyL N X) := by rw [hks]; exact keyOf_set hN
  have hlk : ∀ nq, (Instr.lookup 87 (.map (some mb)) (.string ks) true).run Yba.prog (w6.drewN nq) = .ok (.tuple #[.int .i64 ((g (keyL N X)).getD 0), .bool (g (keyL N X)).isSome]) (w6.drewN nq) := fun nq =>
    hm6.look ((unhide HS6).drewN nq) lawS Yba.underlying87 hkl
  have hXN : X < 2 ^ N := by rw [unhide HX]; exact Plain.maskOf_lt (unhide hfl)
  have hc3 : w6.cell? ⟨sb, 3, none⟩ = some (.map (some mb)) := by
    have := (unhide HS6).cell (unhide e61) (j := 3) (v := s6.index) rfl
    rw [this, unhide HS6s, ← hidx]
  have hc11 : w6.cell? ⟨sb, 11, none⟩ = some (.slice a5 (Plain.elems N X).length d5) := by
    have := (unhide HS6).cell (unhide e61) (j := 11) (v := s6.key) rfl
    rw [this, unhide HS6s]
  have HK := hide hkey
  have HMn := hide hmn
  have HM6 := hide hm6
  have HKs := hide hks
  have HKl := hide hkl
  have Hidx := hide hidx
  clear hkey hmn hm6 hks hkl hmap hC' hidx
  cases hg : g (keyL N X) with
  | some v =>
    rw [hg] at hlk
    have HG := hide ((unhide HK).hit hXN hg)
    clear hg
    go_quiet (fail)
    go_wp2
    go_ret
    have hC' := unhide hC
    have h1 := (unhide HG).1
    have h2 := (unhide HG).2
    rw [unhide HX] at h1 h2
    refine ⟨ret_i64 (by simpa using h1), H6, F, s6, M, ?_, FLe.refl F, fun r hr => unhide e6 r (by omega) (by omega) (by omega), by omega, ?_⟩
    · rw [if_pos h2, if_pos h2]
      exact hC'.turn125 ((unhide HS6).drewN _) (unhide e61) (unhide HS6s) ⟨_, _, by rw [unhide e62]; exact unhide HR3⟩ ⟨_, _, by rw [unhide e65]; exact unhide HR5⟩ (unhide e6)
    · rw [unhide HS6s]; exact ⟨rfl, rfl, rfl, rfl⟩
  | none =>
    rw [hg] at hlk
    have HG := hide hg
    clear hg
    go_quiet (fail)
    clear hlk hcv
    go_upto_region 9 with fail
    have HC6 : Hid (Cls N E w0 (w6.drewN nq) H6 F sb nb s6 S M ms) := hide ((unhide hC).turn125 ((unhide HS6).drewN _) (unhide e61) (unhide HS6s) ⟨_, _, by rw [unhide e62]; exact unhide HR3⟩ ⟨_, _, by rw [unhide e65]; exact unhide HR5⟩ (unhide e6))
    have hcv7 : (convert 22 9 (.slice a5 (Plain.elems N X).length d5)).run Yba.prog (w6.drewN nq) = .ok (.string ks) (w6.drewN nq) := by
      rw [unhide HKs]; exact key_run ((unhide HS6).drewN nq) (r := 5) (by rw [unhide e65]; exact unhide HR5)
    have hc11' : (w6.drewN nq).cell? ⟨sb, 11, none⟩ = some (.slice a5 (Plain.elems N X).length d5) := hc11
    have HM7 : Hid (MapV 9 (H6 9) mb mn g) := HM6
    generalize w6.drewN nq = w7 at HC6 hcv7 hc11' ⊢
    clear nq
    have HR3' : Hid (RowV (H6 2) 3 1 (.slice a3 (Plain.elems N X).length d3) (Plain.elems N X).length (ints (Plain.elems N X))) := hide (by rw [unhide e62]; exact unhide HR3)
    have hC6 := unhide HC6
    have hm0 := hC6.marks.2
    have c7 : w7.cell? ⟨sb, 7, none⟩ = some (.int .i64 M) := by rw [← hC6.marks.1]; exact hC6.st.cell hC6.fields rfl
    have z7 : w7.frozen? ⟨sb, 7, none⟩ = false := hC6.st.frozen hC6.fields 7
    clear hC6 hcv0 hc11 hc3 HM6 HS6
    go_upto_region 11 with fail
    obtain ⟨s8, hs8⟩ : ∃ s8 : Sv, s8 = { s6 with marks := .int .i64 (M + 1) } := ⟨_, rfl⟩
    obtain ⟨H8, hH8⟩ : ∃ H8, H8 = upd H6 1 (some (sb, .cells s8.arr 91 (0, 0))) := ⟨_, rfl⟩
    have HS8 : Hid (St w0 (w7.setCell ⟨sb, 7, none⟩ (.int .i64 (M + 1))) H8 F) := hide (by rw [hH8, hs8]; exact (unhide HC6).st.set (unhide HC6).fields 7 (.int .i64 (M + 1)))
    have e81 : Hid (H8 1 = some (sb, .cells s8.arr 91 (0, 0))) := hide (by rw [hH8, upd_same])
    have e8 : Hid (∀ r, r ≠ 1 → H8 r = H6 r) := hide (fun r a => by rw [hH8, upd_other _ _ a])
    have HS8s := hide hs8
    generalize w7.setCell ⟨sb, 7, none⟩ (.int .i64 (M + 1)) = w8 at HS8 ⊢
    clear hs8 hH8 c7 z7 hc11' hcv7
    have hC6 := unhide HC6
    obtain ⟨n3, xs3, r3⟩ := hC6.stack
    obtain ⟨n4, xs4, r4⟩ := hC6.reached
    obtain ⟨kb, mk, A0, hm8, hmv, hmk⟩ := hC6.mark
    have c9 : w8.cell? ⟨sb, 9, none⟩ = some s6.stack := by
      have := (unhide HS8).cell (unhide e81) (j := 9) (v := s8.stack) rfl
      rw [this, unhide HS8s]
    have c10 : w8.cell? ⟨sb, 10, none⟩ = some s6.reached := by
      have := (unhide HS8).cell (unhide e81) (j := 10) (v := s8.reached) rfl
      rw [this, unhide HS8s]
    have k9 := run_cut89 r3
    have k10 := run_cut89 r4
    have HR9 : Hid (RowV (H8 3) 3 1 (cut0 s6.stack) 0 []) := hide (by rw [unhide e8 3 (by decide)]; exact r3.cut)
    have HR10 : Hid (RowV (H8 4) 3 1 (cut0 s6.reached) 0 []) := hide (by rw [unhide e8 4 (by decide)]; exact r4.cut)
    have H88 : Hid (H8 8 = some (kb, .cells mk 3 (0, 0))) := hide (by rw [unhide e8 8 (by decide)]; exact hm8)
    have HMK : Hid (MarkIs mk N (M + 1) 0) := hide hmk.next
    have Hmv := hide hmv
    clear r3 r4 hm8 hmk hmv hC6
    go_quiet (fail)
    clear c9 c10 k9 k10
    have HS9 : Hid (St w0 (w8.drewN nq) H8 F) := hide ((unhide HS8).drewN _)
    generalize w8.drewN nq = w9 at HS9 ⊢
    clear nq HS8
    -- the states of start are marked and pushed
    have hel : (Plain.elems N X).length ≤ 8 := by have := elems_len (N := N) (X := X); omega
    obtain ⟨a9, d9, hv9⟩ := (unhide HR9).sl
    obtain ⟨a10, d10, hv10⟩ := (unhide HR10).sl
    rw [hv9] at HR9 ⊢
    rw [hv10] at HR10 ⊢
    clear hv9 hv10
    have e9 : Hid (∀ (h3' : Option (Nat × Obj)) (o : Option (Nat × Obj)) r, r ≠ 3 → r ≠ 8 → (upd (upd H8 3 h3') 8 o) r = H8 r) := hide (fun h3' o r a b => by rw [upd_other _ _ b, upd_other _ _ a])
    have hs8m : Hid (s8.mark = .slice (some ⟨kb, 0, none⟩) N N) := hide (by rw [unhide HS8s]; exact unhide Hmv)
    have hs8n : Hid (s8.n = .pointer (some ⟨nb, 0, none⟩)) := hide (by rw [unhide HS8s]; exact (unhide HC6).nptr)
    have hs8k : Hid (s8.marks = .int .i64 (M + 1)) := hide (by rw [unhide HS8s])
    go_wp2
    go_loopw [9, 85] (fun v i wr => ∃ (j : Nat) (h3' : Option (Nat × Obj)) (mk' : Array Value) (a' : Option Addr) (c' : Nat), j ≤ (Plain.elems N X).length ∧ i = .int .i64 j ∧ v = .slice a' j c' ∧
      Hid (St w0 wr (upd (upd H8 3 h3') 8 (some (kb, .cells mk' 3 (0, 0)))) F) ∧ Hid (RowV h3' 3 1 (.slice a' j c') j (ints ((Plain.elems N X).take j))) ∧ Hid (MarkIs mk' N (M + 1) (Plain.maskOf ((Plain.elems N X).take j)))) (fun _ i _ => (Plain.elems N X).length - (intOf i).toNat)
    case atStart =>
      refine ⟨0, H8 3, mk, a9, d9, Nat.zero_le _, rfl, rfl, ?_, HR9, HMK⟩
      rw [upd_self, upd_id _ (unhide H88)]
      exact HS9
    case round =>
      obtain ⟨j, h3', mk', a', c', hj, rfl, rfl, HSj, HRj, HMj⟩ := hrel
      have f1 : (upd (upd H8 3 h3') 8 (some (kb, .cells mk' 3 (0, 0)))) 1 = some (sb, .cells s8.arr 91 (0, 0)) := by rw [unhide e9 _ _ 1 (by decide) (by decide)]; exact unhide e81
      by_cases hlt : j < (Plain.elems N X).length
      · skip
        obtain ⟨b3, rfl⟩ := (unhide HR3').head (by omega)
        obtain ⟨q, hq⟩ : ∃ q, q = (Plain.elems N X).getD j 0 := ⟨_, rfl⟩
        have hqN : q < N := (Plain.mem_elems.1 (by rw [hq]; simp [List.getD, hlt] : q ∈ Plain.elems N X)).1
        have cq : wr.cell? ⟨b3, j, none⟩ = some (.int .i64 (q : Int)) := by
          have r2 : RowV ((upd (upd H8 3 h3') 8 (some (kb, .cells mk' 3 (0, 0)))) 2) 3 1 (.slice (some ⟨b3, 0, none⟩) (Plain.elems N X).length d3) (Plain.elems N X).length (ints (Plain.elems N X)) := by
            rw [unhide e9 _ _ 2 (by decide) (by decide), unhide e8 2 (by decide)]; exact unhide HR3'
          rw [hq]
          exact r2.cell (unhide HSj) (getInt _ j hlt)
        have c6 : wr.cell? ⟨sb, 6, none⟩ = some (.slice (some ⟨kb, 0, none⟩) N N) := by rw [← unhide hs8m]; exact (unhide HSj).cell f1 rfl
        have c7 : wr.cell? ⟨sb, 7, none⟩ = some (.int .i64 (M + 1)) := by rw [← unhide hs8k]; exact (unhide HSj).cell f1 rfl
        obtain ⟨x, hx1, _, _, _⟩ := (unhide HMj).2 q hqN
        have ck : wr.cell? ⟨kb, q, none⟩ = some (.int .i64 x) := (unhide HSj).cell (upd_same _ _ _) hx1
        have zk : wr.frozen? ⟨kb, q, none⟩ = false := (unhide HSj).frozen (upd_same _ _ _) q
        have HM2 := hide ((unhide HMj).set (t := q) (by omega) hqN)
        have hmsk : Hid (Plain.maskOf ((Plain.elems N X).take (j + 1)) = Plain.maskOf ((Plain.elems N X).take j) ||| 2 ^ q) := hide (by rw [hq]; exact mask_snoc _ j hlt)
        have hsnoc : Hid (ints ((Plain.elems N X).take j) ++ [.int .i64 (q : Int)] = ints ((Plain.elems N X).take (j + 1))) := hide (by rw [hq]; exact take_map_snoc _ _ j hlt)
        have HSs := hide ((unhide HSj).set (upd_same _ _ _) q (.int .i64 (M + 1)))
        rw [upd_upd] at HSs
        have hqi : (q : Int) < (N : Int) := by omega
        clear hq hx1
        go_wp2
        go_region
        have HSk : Hid (St w0 (wr.setCell ⟨kb, q, none⟩ (.int .i64 (M + 1))).drew (upd (upd H8 3 h3') 8 (some (kb, .cells (mk'.setIfInBounds q (.int .i64 (M + 1))) 3 (0, 0)))) F) := hide (unhide HSs).drew
        generalize (wr.setCell ⟨kb, q, none⟩ (.int .i64 (M + 1))).drew = wk at HSk ⊢
        clear HSs HSj cq c6 c7 ck zk f1
        have HRk : Hid (RowV ((upd (upd H8 3 h3') 8 (some (kb, .cells (mk'.setIfInBounds q (.int .i64 (M + 1))) 3 (0, 0)))) 3) 3 1 (.slice a' j c') j (ints ((Plain.elems N X).take j))) := hide (by rw [upd_other _ _ (by decide), upd_same]; exact unhide HRj)
        go_wp2_with (at_builtin; refine wpList_append_st (w0 := w0) (H := upd (upd H8 3 h3') 8 (some (kb, .cells (mk'.setIfInBounds q (.int .i64 (M + 1))) 3 (0, 0)))) (F := F) _ rfl (.tmp 99) (.tmp 101) 89 rfl 3 (by decide) 3 i0 (.int .i64 0) 1 8 Yba.underlying89 hi hz0 hz1 hz2 rfl (by decide) (.slice a' j c') j (ints ((Plain.elems N X).take j)) rfl ((unhide HSk).alloc _) (unhide HRk) ⟨wk.heap.size, 0, none⟩ 1 1 [.int .i64 (q : Int)] rfl rfl (cell_one_new _ _ _) (one_int _) (by unfold maxLen; omega) (by omega) ?_; intro v2 w2 h2 hst2 hrow2 hnil2)
        rw [upd_in _ _ _ _ (by decide)] at hst2
        rw [unhide hsnoc] at hrow2
        obtain ⟨a2, d2, hv2⟩ := (unhide hrow2).sl
        subst hv2
        clear hnil2 HSk HRk
        go_wp2
        go_roundw
        case rel => exact ⟨j + 1, h2, _, a2, d2, by omega, by go_num, rfl, hst2, hrow2, hide (by rw [unhide hmsk]; exact unhide HM2)⟩
        case measure => simp [intOf]; omega
      · have hjn : j = (Plain.elems N X).length := by omega
        rw [List.take_of_length_le (by omega)] at HRj HMj
        rw [Plain.maskOf_elems hXN] at HMj
        subst hjn
        have c6 : wr.cell? ⟨sb, 6, none⟩ = some (.slice (some ⟨kb, 0, none⟩) N N) := by rw [← unhide hs8m]; exact (unhide HSj).cell f1 rfl
        have HF1 := hide f1
        clear hlt hj f1
        go_wp2
        go_upto_region 18 with fail
        clear c6
        have HSb : Hid (St w0 wr (upd (upd (upd H8 3 h3') 4 (H8 4)) 8 (some (kb, .cells mk' 3 (0, 0)))) F) := hide (by rw [upd_idle _ _ (by decide)]; exact unhide HSj)
        have eb : Hid (∀ (a b o : Option (Nat × Obj)) r, r ≠ 3 → r ≠ 4 → r ≠ 8 → (upd (upd (upd H8 3 a) 4 b) 8 o) r = H8 r) := hide (fun a b o r h1 h2 h3 => by rw [upd_other _ _ h3, upd_other _ _ h2, upd_other _ _ h1])
        have HSe := hide (Plain.Search.init (E := E) hXN)
        have HRg : Hid (Rng N (N : Int) (-1) []) := hide ⟨by omega, by omega, by omega, by omega, fun _ => ⟨rfl, rfl⟩, fun _ => by omega, fun q hq => by cases hq⟩
        clear HSj HF1
        go_loopw [9, 10, 13, 14] (fun v9 v10 v13 v14 wr => ∃ (stk rch : List Nat) (h3' h4' : Option (Nat × Obj)) (mk' : Array Value) (A : Nat) (a' : Option Addr) (c' : Nat) (a4 : Option Addr) (c4 : Nat) (lo hi : Int),
          v9 = .slice a' stk.length c' ∧ v10 = .slice a4 rch.length c4 ∧ v13 = .int .i64 lo ∧ v14 = .int .i64 hi ∧ Hid (St w0 wr (upd (upd (upd H8 3 h3') 4 h4') 8 (some (kb, .cells mk' 3 (0, 0)))) F) ∧
          Hid (RowV h3' 3 1 (.slice a' stk.length c') stk.length (ints stk)) ∧ Hid (RowV h4' 3 1 (.slice a4 rch.length c4) rch.length (ints rch)) ∧ Hid (MarkIs mk' N (M + 1) A) ∧ Hid (Plain.Search N E X A stk rch (fun _ _ => False)) ∧ Hid (Rng N lo hi rch)) (fun _ v10 _ _ _ => match v10 with | .slice _ n _ => N - n | _ => 0)
        case atStart =>
          exact ⟨Plain.elems N X, [], h3', H8 4, mk', X, a', c', a10, d10, N, -1, rfl, rfl, rfl, rfl, HSb, HRj, HR10, HMj, HSe, HRg⟩
        case round =>
          clear HSb HRj HMj HSe HRg HR9 HR10 HS9
          obtain ⟨stk, rch, h3', h4', mk', A, a', c', a4, c4, lo, hI, rfl, rfl, rfl, rfl, HSj, HRj, HR4, HMj, HSe, HRg⟩ := hrel
          have HF1 : Hid ((upd (upd (upd H8 3 h3') 4 h4') 8 (some (kb, .cells mk' 3 (0, 0)))) 1 = some (sb, .cells s8.arr 91 (0, 0))) := hide (by rw [unhide eb _ _ _ 1 (by decide) (by decide) (by decide)]; exact unhide e81)
          rcases List.eq_nil_or_concat stk with hnil | ⟨stk', q, hsnoc⟩
          · subst hnil
            rw [List.length_nil] at HRj ⊢
            have hAC : A = Plain.closeM N E X := (unhide HSe).fin (unhide hE)
            have hAlt := (unhide HSe).lt
            have hbit : ∀ q, A.testBit q = true → lo ≤ (q : Int) ∧ (q : Int) ≤ hI := fun q hq => (unhide HRg).2.2.2.2.2.2 q (by have := ((unhide HSe).mem q).1 hq; simpa using this)
            obtain ⟨g1, g2, g3, g4, g5, g6, _⟩ := unhide HRg
            have hlen4 := (unhide HSe).len
            rw [List.length_nil] at hlen4
            have hcond : hI - lo < 4 * (rch.length : Int) := by
              by_cases z0 : rch.length = 0
              · have := g5 z0; omega
              · by_cases z1 : rch.length ≤ 1
                · have := g6 z1; omega
                · omega
            have HAC := hide hAC
            have Hbit := hide hbit
            obtain ⟨k0, hk0⟩ : ∃ k0 : Nat, lo = (k0 : Int) := ⟨lo.toNat, by omega⟩
            subst hk0
            have HE0 : Hid (Plain.elems k0 A = []) := hide (elems_none fun q hq => by have := hbit q hq; omega)
            clear hAC hbit g5 g6 HSe HRg
            go_upto_region 34 with fail
            clear hcond
            go_loopw [10, 18] (fun v10 v18 wr => ∃ (k : Nat) (h4' : Option (Nat × Obj)) (a4 : Option Addr) (c4 : Nat), k0 ≤ k ∧ (k : Int) ≤ N ∧ v18 = .int .i64 k ∧ v10 = .slice a4 (Plain.elems k A).length c4 ∧ 
              Hid (St w0 wr (upd (upd (upd H8 3 h3') 4 h4') 8 (some (kb, .cells mk' 3 (0, 0)))) F) ∧ Hid (RowV h4' 3 1 (.slice a4 (Plain.elems k A).length c4) (Plain.elems k A).length (ints (Plain.elems k A)))) (fun _ i _ => N - (intOf i).toNat)
            case atStart =>
              refine ⟨k0, h4', a4, c4, Nat.le_refl _, g2, rfl, ?_, HSj, ?_⟩
              · rw [unhide HE0]; rfl
              · rw [unhide HE0]; exact hide (unhide HR4).cut
            case round =>
              clear HSj HR4 HE0 HF1
              obtain ⟨k, h4', a4, c4, hk1, hk2, rfl, rfl, HSj, HR4⟩ := hrel
              have HF1 : Hid ((upd (upd (upd H8 3 h3') 4 h4') 8 (some (kb, .cells mk' 3 (0, 0)))) 1 = some (sb, .cells s8.arr 91 (0, 0))) := hide (by rw [unhide eb _ _ _ 1 (by decide) (by decide) (by decide)]; exact unhide e81)
              have hel4 : (Plain.elems k A).length ≤ k := elems_len
              by_cases hlt : (k : Int) ≤ hI
              · skip
                obtain ⟨x, hx1, hx2, hx3, hx4⟩ := (unhide HMj).2 k (by omega)
                have c6 : wr.cell? ⟨sb, 6, none⟩ = some (.slice (some ⟨kb, 0, none⟩) N N) := by rw [← unhide hs8m]; exact (unhide HSj).cell (unhide HF1) rfl
                have c7 : wr.cell? ⟨sb, 7, none⟩ = some (.int .i64 (M + 1)) := by rw [← unhide hs8k]; exact (unhide HSj).cell (unhide HF1) rfl
                have ck : wr.cell? ⟨kb, k, none⟩ = some (.int .i64 x) := (unhide HSj).cell (upd_same _ _ _) hx1
                have hki : (k : Int) < (N : Int) := by omega
                have HX4 := hide hx4
                clear hx1 hx4
                by_cases hA : A.testBit k = true
                · have hxM : x = M + 1 := (unhide HX4).2 hA
                  subst hxM
                  have hsc : Hid (Plain.elems (k + 1) A = Plain.elems k A ++ [k]) := hide (by rw [elems_succ, if_pos hA])
                  go_upto_region 36 with fail
                  go_quiet (fail)
                  have HSk := hide ((unhide HSj).drewN nq)
                  generalize wr.drewN nq = wk at HSk ⊢
                  have HRk : Hid (RowV ((upd (upd (upd H8 3 h3') 4 h4') 8 (some (kb, .cells mk' 3 (0, 0)))) 4) 3 1 (.slice a4 (Plain.elems k A).length c4) (Plain.elems k A).length (ints (Plain.elems k A))) := hide (by rw [upd_other _ _ (by decide), upd_same]; exact unhide HR4)
                  go_wp2_with (at_builtin; refine wpList_append_st (w0 := w0) (H := upd (upd (upd H8 3 h3') 4 h4') 8 (some (kb, .cells mk' 3 (0, 0)))) (F := F) _ rfl (.tmp 210) (.tmp 212) 89 rfl 4 (by decide) 3 i0 (.int .i64 0) 1 8 Yba.underlying89 hi hz0 hz1 hz2 rfl (by decide) (.slice a4 (Plain.elems k A).length c4) (Plain.elems k A).length (ints (Plain.elems k A)) rfl ((unhide HSk).alloc _) (unhide HRk) ⟨wk.heap.size, 0, none⟩ 1 1 [.int .i64 (k : Int)] rfl rfl (cell_one_new _ _ _) (one_int _) (by unfold maxLen; omega) (by omega) ?_; intro v5 w5 h5 hst5 hrow5 hnil5)
                  rw [upd_in _ _ _ _ (by decide)] at hst5
                  rw [← ints_snoc] at hrow5
                  obtain ⟨a5, d5, hv5⟩ := (unhide hrow5).sl
                  subst hv5
                  clear hnil5 HSk HRk
                  go_wp2
                  go_roundw
                  case rel => 
                    have hl5 : (Plain.elems (k + 1) A).length = (Plain.elems k A).length + 1 := by rw [unhide hsc]; simp
                    exact ⟨k + 1, h5, a5, d5, by omega, by omega, by go_num, by rw [hl5], hst5, by rw [hl5, unhide hsc]; exact hrow5⟩
                  case measure => simp [intOf]; omega
                · have hxM : x ≠ M + 1 := fun e => hA ((unhide HX4).1 e)
                  have hsc : Hid (Plain.elems (k + 1) A = Plain.elems k A) := hide (by rw [elems_succ, if_neg hA])
                  go_upto_region 36 with fail
                  go_quiet (fail)
                  go_wp2
                  go_roundw
                  case rel => exact ⟨k + 1, h4', a4, c4, by omega, by omega, by go_num, by rw [unhide hsc], hide ((unhide HSj).drewN nq), by rw [unhide hsc]; exact HR4⟩
                  case measure => simp [intOf]; omega
              · have HEA : Hid (Plain.elems k A = Plain.elems N A) := hide (elems_all (by omega) (fun q hq hb => by have := unhide Hbit q hb; omega))
                rw [unhide HEA] at HR4 hel4 ⊢
                rw [unhide HAC] at HR4 hel4 ⊢
                clear HEA
                obtain ⟨C, hCe⟩ : ∃ C, C = Plain.closeM N E X := ⟨_, rfl⟩
                rw [← hCe] at HR4 hel4 HAC ⊢
                have HCe := hide hCe
                have hCN : C < 2 ^ N := by rw [hCe]; exact Plain.closeM_lt (unhide hE) hXN
                obtain ⟨HA, hHA⟩ : ∃ HA, HA = upd (upd (upd H8 3 h3') 4 h4') 8 (some (kb, .cells mk' 3 (0, 0))) := ⟨_, rfl⟩
                have eA3 : Hid (HA 3 = h3') := hide (by rw [hHA, upd_other _ _ (by decide), upd_other _ _ (by decide), upd_same])
                have eA4 : Hid (HA 4 = h4') := hide (by rw [hHA, upd_other _ _ (by decide), upd_same])
                have eA8 : Hid (HA 8 = some (kb, .cells mk' 3 (0, 0))) := hide (by rw [hHA, upd_same])
                have eA : Hid (∀ r, r ≠ 1 → r ≠ 3 → r ≠ 4 → r ≠ 8 → HA r = H6 r) := hide (fun r h1 h3 h4 h8 => by rw [hHA, unhide eb _ _ _ r h3 h4 h8, unhide e8 r h1])
                rw [← hHA] at HSj HF1
                clear hHA hCe
                have hel5 : (Plain.elems N C).length ≤ 8 := by have := elems_len (N := N) (X := C); omega
                -- s.stack, s.reached = stack, reached
                have c9 : wr.cell? ⟨sb, 9, none⟩ = some s8.stack := (unhide HSj).cell (unhide HF1) rfl
                have c10 : wr.cell? ⟨sb, 10, none⟩ = some s8.reached := (unhide HSj).cell (unhide HF1) rfl
                have z9 : wr.frozen? ⟨sb, 9, none⟩ = false := (unhide HSj).frozen (unhide HF1) 9
                have z10 : wr.frozen? ⟨sb, 10, none⟩ = false := (unhide HSj).frozen (unhide HF1) 10
                obtain ⟨s10, hs10⟩ : ∃ s10 : Sv, s10 = { s8 with stack := .slice a' 0 c', reached := .slice a4 (Plain.elems N C).length c4 } := ⟨_, rfl⟩
                obtain ⟨HB, hHB⟩ : ∃ HB, HB = upd HA 1 (some (sb, .cells s10.arr 91 (0, 0))) := ⟨_, rfl⟩
                have HSB : Hid (St w0 ((wr.setCell ⟨sb, 9, none⟩ (.slice a' 0 c')).setCell ⟨sb, 10, none⟩ (.slice a4 (Plain.elems N C).length c4)) HB F) := hide (by
                  have h1 := (unhide HSj).set (unhide HF1) 9 (.slice a' 0 c')
                  have h2 := h1.set (upd_same _ _ _) 10 (.slice a4 (Plain.elems N C).length c4)
                  rw [upd_upd] at h2
                  rw [hHB, hs10]; exact h2)
                have eB1 : Hid (HB 1 = some (sb, .cells s10.arr 91 (0, 0))) := hide (by rw [hHB, upd_same])
                have eB : Hid (∀ r, r ≠ 1 → HB r = HA r) := hide (fun r h => by rw [hHB, upd_other _ _ h])
                have HSBs := hide hs10
                clear hHB hs10 HSj HF1
                go_upto_region 40 with fail
                generalize (wr.setCell ⟨sb, 9, none⟩ (.slice a' 0 c')).setCell ⟨sb, 10, none⟩ (.slice a4 (Plain.elems N C).length c4) = wB at HSB ⊢
                clear c9 c10 z9 z10
                -- s.key = appendKey(s.key[:0], reached)
                have hk10 : s10.key = .slice a5 (Plain.elems N X).length d5 := by rw [unhide HSBs, unhide HS8s, unhide HS6s]
                have eB5 : Hid (HB 5 = h5) := hide (by rw [unhide eB 5 (by decide), unhide eA 5 (by decide) (by decide) (by decide) (by decide), unhide e65])
                have r5' : RowV (HB 5) 5 1 s10.key (Plain.elems N X).length (bytesV (Plain.elems N X)) := by rw [unhide eB5, hk10]; exact unhide HR5
                have c11 : wB.cell? ⟨sb, 11, none⟩ = some s10.key := (unhide HSB).cell (unhide eB1) rfl
                have k11 := run_cut22 r5'
                have HK5 := hide r5'.cut
                have HB4 : Hid (RowV (HB 4) 3 1 (.slice a4 (Plain.elems N C).length c4) (Plain.elems N C).length (ints (Plain.elems N C))) := hide (by rw [unhide eB 4 (by decide), unhide eA4]; exact unhide HR4)
                clear r5' hk10
                go_wp2_with fail
                refine (key_any HSB 4 (by decide) (cut0 s10.key) _ (Plain.elems N C).length (Plain.elems N C) (hide (fun q hq => by have := (Plain.mem_elems.1 hq).1; omega)) (hide rfl) (by omega) HK5 HB4).mono ?_
                rintro e wC ⟨kv, h7, rfl, hst7, hrow7⟩
                obtain ⟨a7, d7, hv7⟩ := hrow7.sl
                subst hv7
                have HS7 := hide hst7
                have HR7 := hide hrow7
                clear hst7 hrow7 c11 k11 HK5
                have f7 : (upd HB 5 h7) 1 = some (sb, .cells s10.arr 91 (0, 0)) := by rw [upd_other _ _ (by decide)]; exact unhide eB1
                have c11 : wC.cell? ⟨sb, 11, none⟩ = some s10.key := (unhide HS7).cell f7 rfl
                have z11 : wC.frozen? ⟨sb, 11, none⟩ = false := (unhide HS7).frozen f7 11
                obtain ⟨s12, hs12⟩ : ∃ s12 : Sv, s12 = { s10 with key := .slice a7 (Plain.elems N C).length d7 } := ⟨_, rfl⟩
                obtain ⟨HD, hHD⟩ : ∃ HD, HD = upd (upd HB 5 h7) 1 (some (sb, .cells s12.arr 91 (0, 0))) := ⟨_, rfl⟩
                have HSD : Hid (St w0 (wC.setCell ⟨sb, 11, none⟩ (.slice a7 (Plain.elems N C).length d7)) HD F) := hide (by rw [hHD, hs12]; exact (unhide HS7).set f7 11 (.slice a7 (Plain.elems N C).length d7))
                have eD1 : Hid (HD 1 = some (sb, .cells s12.arr 91 (0, 0))) := hide (by rw [hHD, upd_same])
                have eD5 : Hid (HD 5 = h7) := hide (by rw [hHD, upd_other _ _ (by decide), upd_same])
                have eD3 : Hid (HD 3 = h3') := hide (by rw [hHD, upd_other _ _ (by decide), upd_other _ _ (by decide), unhide eB 3 (by decide), unhide eA3])
                have eD4 : Hid (HD 4 = h4') := hide (by rw [hHD, upd_other _ _ (by decide), upd_other _ _ (by decide), unhide eB 4 (by decide), unhide eA4])
                have eD8 : Hid (HD 8 = some (kb, .cells mk' 3 (0, 0))) := hide (by rw [hHD, upd_other _ _ (by decide), upd_other _ _ (by decide), unhide eB 8 (by decide), unhide eA8])
                have eD : Hid (∀ r, r ≠ 1 → r ≠ 3 → r ≠ 4 → r ≠ 5 → r ≠ 8 → HD r = H6 r) := hide (fun r h1 h3 h4 h5 h8 => by rw [hHD, upd_other _ _ h1, upd_other _ _ h5, unhide eB r h1, unhide eA r h1 h3 h4 h8])
                have HSDs : Hid (s12 = { s with marks := .int .i64 (M + 1), start := .slice a3 (Plain.elems N X).length d3, stack := .slice a' 0 c', reached := .slice a4 (Plain.elems N C).length c4, key := .slice a7 (Plain.elems N C).length d7 }) := hide (by rw [hs12, unhide HSBs, unhide HS8s, unhide HS6s])
                clear hHD hs12 f7 HS7 HSB eB1 eB eB5 eA3 eA4 eA8 eA HB4 HSBs
                go_upto_region 41 with fail
                generalize wC.setCell ⟨sb, 11, none⟩ (.slice a7 (Plain.elems N C).length d7) = wD at HSD ⊢
                clear c11 z11
                -- i, ok := s.index[string(s.key)]
                have hm9 : MapV 9 (HD 9) mb mn g := by rw [unhide eD 9 (by decide) (by decide) (by decide) (by decide) (by decide)]; exact unhide HM7
                obtain ⟨kt, hkt⟩ : ∃ kt, kt = strOfNums (castI (Plain.elems N C)) := ⟨_, rfl⟩
                have hcv : ∀ nq, (convert 22 9 (.slice a7 (Plain.elems N C).length d7)).run Yba.prog (wD.drewN nq) = .ok (.string kt) (wD.drewN nq) := fun nq => by
                  rw [hkt]; exact key_run ((unhide HSD).drewN nq) (r := 5) (by rw [unhide eD5]; exact unhide HR7)
                have hkt2 : keyOf Yba.prog 9 (.string kt) = some (keyL N C) := by rw [hkt]; exact keyOf_set hN
                have hlk : ∀ nq, (Instr.lookup 87 (.map (some mb)) (.string kt) true).run Yba.prog (wD.drewN nq) = .ok (.tuple #[.int .i64 ((g (keyL N C)).getD 0), .bool (g (keyL N C)).isSome]) (wD.drewN nq) := fun nq =>
                  hm9.look ((unhide HSD).drewN nq) lawS Yba.underlying87 hkt2
                have hc3 : wD.cell? ⟨sb, 3, none⟩ = some (.map (some mb)) := by
                  have := (unhide HSD).cell (unhide eD1) (j := 3) (v := s12.index) rfl
                  rw [this, unhide HSDs, ← unhide Hidx]
                have hc11 : wD.cell? ⟨sb, 11, none⟩ = some (.slice a7 (Plain.elems N C).length d7) := by
                  have := (unhide HSD).cell (unhide eD1) (j := 11) (v := s12.key) rfl
                  rw [this, unhide HSDs]
                have HM9 := hide hm9
                have HKt := hide hkt
                have HKt2 := hide hkt2
                clear hm9 hkt hkt2
                have hmn2 : mn < maxLen := by have := unhide HMn; unfold maxLen; omega
                cases hg : g (keyL N C) with
                | some v =>
                  rw [hg] at hlk
                  have HG2 := hide ((unhide HK).again hN (unhide hE) hXN (by rw [← unhide HCe]; exact hg))
                  clear hg
                  have hv0 : (Lit.int .i64 v).wf = true := by
                    have := (unhide HG2).1
                    have h2 : S.idxOf (Plain.closeM N E X) ≤ S.length := List.idxOf_le_length
                    have h3 := Good.le256 (unhide HK).good hN
                    rw [this]
                    exact wf_small (by omega) (by omega)
                  go_quiet (fail)
                  have HSE := hide ((unhide HSD).drewN nq)
                  have hc3' : (wD.drewN nq).cell? ⟨sb, 3, none⟩ = some (.map (some mb)) := hc3
                  generalize wD.drewN nq = wE at HSE hc3' ⊢
                  clear hlk hcv hc3 hc11 HSD nq
                  obtain ⟨wF, hrun, h9, hstF, hmF⟩ := (unhide HM9).store (unhide HSE) lawS Yba.underlying87 (unhide HKl) (keyL_key N X) hmn2 v hv0
                  have HSF := hide hstF
                  have HMF := hide hmF
                  clear hstF hmF
                  go_wp2
                  go_ret
                  have h1 := (unhide HG2).1
                  have h2 := (unhide HG2).2.1
                  have h3 := (unhide HG2).2.2
                  rw [unhide HX] at h1 h2
                  have hC' := unhide hC
                  have hs12 := unhide HSDs
                  have hmv : s.mark = .slice (some ⟨kb, 0, none⟩) N N := by have := unhide Hmv; rw [unhide HS6s] at this; exact this
                  have hU : ∀ r, r ≠ 1 → r ≠ 2 → r ≠ 3 → r ≠ 4 → r ≠ 5 → r ≠ 8 → r ≠ 9 → (upd HD 9 h9) r = H r := fun r a1 a2 a3 a4 a5 a8 a9 => by rw [upd_other _ _ a9, unhide eD r a1 a3 a4 a5 a8, unhide e6 r a1 a2 a5]
                  refine ⟨ret_i64 (by simpa using h1), upd HD 9 h9, F, s12, M + 1, ?_, FLe.refl F, fun r hr => hU r (by omega) (by omega) (by omega) (by omega) (by omega) (by omega) (by omega), Int.le_refl _, ?_⟩
                  · rw [if_pos h2, if_pos h2]
                    refine ⟨unhide HSF, ?_, ?_, hC'.nfa, ?_, ?_, ?_, ?_, ?_, ?_, ?_, ?_, ?_⟩
                    · rw [upd_other _ _ (by decide)]; exact unhide eD1
                    · rw [hs12]; exact hC'.nptr
                    · rw [upd_other _ _ (by decide), unhide eD 2 (by decide) (by decide) (by decide) (by decide) (by decide), hs12]; exact ⟨_, _, unhide HR3'⟩
                    · rw [upd_other _ _ (by decide), unhide eD3, hs12]; exact ⟨_, _, unhide HRj⟩
                    · rw [upd_other _ _ (by decide), unhide eD4, hs12]; exact ⟨_, _, unhide HR4⟩
                    · rw [upd_other _ _ (by decide), unhide eD5, hs12]; exact ⟨_, _, unhide HR7⟩
                    · rw [hU 6 (by decide) (by decide) (by decide) (by decide) (by decide) (by decide) (by decide), hs12]; exact hC'.sets
                    · rw [hU 7 (by decide) (by decide) (by decide) (by decide) (by decide) (by decide) (by decide), hs12]; exact hC'.moves
                    · exact ⟨kb, mk', A, by rw [upd_other _ _ (by decide)]; exact unhide eD8, by rw [hs12]; exact hmv, unhide HMj⟩
                    · rw [hs12]; exact ⟨rfl, by omega⟩
                    · exact ⟨mb, mn + 1, _, by rw [hs12]; exact unhide Hidx, by rw [upd_same]; exact unhide HMF, h3, by have := unhide HMn; omega⟩
                  · rw [hs12]; exact ⟨rfl, rfl, rfl, rfl⟩
                | none =>
                  rw [hg] at hlk
                  have HG2 := hide hg
                  clear hg
                  have hC' := unhide hC
                  obtain ⟨vs, hsets, hsis⟩ := hC'.sets
                  obtain ⟨a6, d6, hv6⟩ := hsets.sl
                  obtain ⟨a17, d17, hv17⟩ := hC'.moves.sl
                  have hSl := Good.le256 (unhide HK).good hN
                  have Hsets : Hid (RowV (HD 6) 89 1 (.slice a6 S.length d6) S.length vs) := hide (by rw [unhide eD 6 (by decide) (by decide) (by decide) (by decide) (by decide), unhide e6 6 (by decide) (by decide) (by decide), ← hv6]; exact hsets)
                  have Hmoves : Hid (RowV (HD 7) 78 1 (.slice a17 S.length d17) S.length ms) := hide (by rw [unhide eD 7 (by decide) (by decide) (by decide) (by decide) (by decide), unhide e6 7 (by decide) (by decide) (by decide), ← hv17]; exact hC'.moves)
                  have Hsis := hide hsis
                  have hs12s : Hid (s12.sets = .slice a6 S.length d6) := hide (by rw [unhide HSDs, ← hv6])
                  have hs12m : Hid (s12.moves = .slice a17 S.length d17) := hide (by rw [unhide HSDs, ← hv17])
                  clear hsets hsis hv6 hv17 hC'
                  go_quiet (fail)
                  have HSE := hide ((unhide HSD).drewN nq)
                  have hc3' : (wD.drewN nq).cell? ⟨sb, 3, none⟩ = some (.map (some mb)) := hc3
                  have hc11' : (wD.drewN nq).cell? ⟨sb, 11, none⟩ = some (.slice a7 (Plain.elems N C).length d7) := hc11
                  have hc4' : (wD.drewN nq).cell? ⟨sb, 4, none⟩ = some (.slice a6 S.length d6) := by rw [← unhide hs12s]; exact ((unhide HSD).drewN nq).cell (unhide eD1) rfl
                  have hcv' : (convert 22 9 (.slice a7 (Plain.elems N C).length d7)).run Yba.prog (wD.drewN nq).drew = .ok (.string kt) (wD.drewN nq).drew := hcv (nq + 1)
                  generalize wD.drewN nq = wE at HSE hc3' hc11' hc4' hcv' ⊢
                  obtain ⟨wF, hrun, h9, hstF, hmF⟩ := (unhide HM9).store (unhide HSE).drew lawS Yba.underlying87 (unhide HKt2) (keyL_key N C) hmn2 (S.length : Nat) (wf_small (by omega) (by omega))
                  have HSF := hide hstF
                  have HMF := hide hmF
                  clear hstF hmF hlk hcv hc3 hc11 HSD nq
                  go_upto_region 44 with fail
                  go_region
                  clear hrun hc3' hc11' hc4' hcv' HSE HM9
                  -- s.sets = append(s.sets, slices.Clone(reached))
                  obtain ⟨iS, siI, siZ, siS, siB⟩ := info_parts info89
                  have hF1 : (upd HD 9 h9) 1 = some (sb, .cells s12.arr 91 (0, 0)) := by rw [upd_other _ _ (by decide)]; exact unhide eD1
                  have hc4 : wF.cell? ⟨sb, 4, none⟩ = some (.slice a6 S.length d6) := by rw [← unhide hs12s]; exact (unhide HSF).cell hF1 rfl
                  have hz4 : wF.frozen? ⟨sb, 4, none⟩ = false := (unhide HSF).frozen hF1 4
                  have Hcl : Hid (a4 = none ∧ c4 = 0 ∧ Plain.elems N C = [] ∨ ∃ b, a4 = some ⟨b, 0, none⟩ ∧ ∀ j, j < (Plain.elems N C).length → wF.drew.cell? ⟨b, j, none⟩ = some (.int .i64 ((Plain.elems N C).getD j 0 : Nat))) := hide (by
                    have h4 : RowV ((upd HD 9 h9) 4) 3 1 (.slice a4 (Plain.elems N C).length c4) (Plain.elems N C).length (ints (Plain.elems N C)) := by rw [upd_other _ _ (by decide), unhide eD4]; exact unhide HR4
                    rcases h4.shape with ⟨q1, q2⟩ | ⟨b, cap, q1⟩
                    · simp only [Value.slice.injEq] at q1; exact Or.inl ⟨q1.1, q1.2.2, List.length_eq_zero_iff.1 q2⟩
                    · simp only [Value.slice.injEq] at q1; rw [q1.1] at h4; exact Or.inr ⟨b, q1.1, fun j hj => h4.cell (unhide HSF).drew (getInt _ j hj)⟩)
                  have Hsets9 : Hid (RowV ((upd HD 9 h9) 6) 89 1 (.slice a6 S.length d6) S.length vs) := hide (by rw [upd_other _ _ (by decide)]; exact unhide Hsets)
                  have HF1 := hide hF1
                  have HF6 : Hid (∀ h8, (upd (upd HD 9 h9) 6 h8) 1 = some (sb, .cells s12.arr 91 (0, 0))) := hide (fun h8 => by rw [upd_other _ _ (by decide)]; exact hF1)
                  clear hF1
                  go_upto_region 45 with fail
                  go_cut [19] from 264 to 274 (fun v19 wc => ∃ (F' : Nat → Option (Array Value × TypeId)) (av : Option Addr) (cv : Nat) (h8 : Option (Nat × Obj)) (a8 : Option Addr) (d8 : Nat), v19 = .int .i64 (S.length : Nat) ∧ Hid (FLe F F') ∧ Hid (RoRow0 F' 3 1 (.slice av (Plain.elems N C).length cv) (Plain.elems N C).length (ints (Plain.elems N C))) ∧
                    Hid (RowV h8 89 1 (.slice a8 (S.length + 1) d8) (S.length + 1) (vs ++ [.slice av (Plain.elems N C).length cv])) ∧ Hid (∃ wH, St w0 wH (upd (upd HD 9 h9) 6 h8) F' ∧ wc = wH.setCell ⟨sb, 4, none⟩ (.slice a8 (S.length + 1) d8)))
                  case first =>
                    go_region_law (first
                        | (refine step_append_st (w0 := w0) (H := upd HD 9 h9) (F := F') _ rfl (.tmp 268) (.tmp 271) 88 rfl 6 (by decide) 89 iS (.slice none 0 0) 1 24 Yba.underlying88 siI siZ siS siB rfl (by decide) (.slice a6 S.length d6) S.length vs rfl ((unhide HSG).alloc _) (unhide Hsets9) ⟨wG.heap.size, 0, none⟩ 1 1 [.slice av (Plain.elems N C).length cv] rfl rfl (cell_one_new _ _ _) (one_slice _ _ _) (by unfold maxLen; omega) (by omega) ?_; intro v8 wH h8 hst8 hrow8 hnil8; obtain ⟨a8, d8, hv8⟩ := (unhide hrow8).sl; subst hv8; have hc4H : wH.cell? ⟨sb, 4, none⟩ = some (.slice a6 S.length d6) := (by rw [← unhide hs12s]; exact (unhide hst8).cell (unhide HF6 h8) rfl); have hz4H : wH.frozen? ⟨sb, 4, none⟩ = false := (unhide hst8).frozen (unhide HF6 h8) 4)
                        | (go_simp; go_at_call 13; refine (clone_st (hide (unhide HSF).drew) (Plain.elems N C) (by omega) a4 c4 Hcl).mono ?_; rintro e wG ⟨av, cv, F', rfl, HSG, HFG, HRG⟩; have hc4G : wG.cell? ⟨sb, 4, none⟩ = some (.slice a6 S.length d6) := (by rw [← unhide hs12s]; exact (unhide HSG).cell (unhide HF1) rfl); have hsbG : sb < wG.heap.size := (unhide HSG).lt (unhide HF1)))
                    all_goals (go_wp2_with fail; go_meet)
                    case rel => exact ⟨F', av, cv, h8, a8, d8, rfl, HFG, HRG, hrow8, hide ⟨_, unhide hst8, rfl⟩⟩
                    case rel => exact ⟨F', av, cv, h8, a8, d8, rfl, HFG, HRG, hrow8, hide ⟨_, unhide hst8, rfl⟩⟩
                    case rel => exact ⟨F', av, cv, h8, a8, d8, rfl, HFG, HRG, hrow8, hide ⟨_, unhide hst8, rfl⟩⟩
                  case rest =>
                  obtain ⟨F', av, cv, h8, a8, d8, rfl, HFG, HRG, HR8, HW⟩ := hcut
                  obtain ⟨s13, hs13⟩ : ∃ s13 : Sv, s13 = { s12 with sets := .slice a8 (S.length + 1) d8 } := ⟨_, rfl⟩
                  obtain ⟨HI, hHI⟩ : ∃ HI, HI = upd (upd (upd HD 9 h9) 6 h8) 1 (some (sb, .cells s13.arr 91 (0, 0))) := ⟨_, rfl⟩
                  have HSc : Hid (St w0 wc HI F') := hide (by
                    obtain ⟨wH, hstH, hwc⟩ := unhide HW
                    rw [hwc, hHI, hs13]
                    exact hstH.set (unhide HF6 h8) 4 (.slice a8 (S.length + 1) d8))
                  have eI1 : Hid (HI 1 = some (sb, .cells s13.arr 91 (0, 0))) := hide (by rw [hHI, upd_same])
                  have eI6 : Hid (HI 6 = h8) := hide (by rw [hHI, upd_other _ _ (by decide), upd_same])
                  have eI9 : Hid (HI 9 = h9) := hide (by rw [hHI, upd_other _ _ (by decide), upd_other _ _ (by decide), upd_same])
                  have eI : Hid (∀ r, r ≠ 1 → r ≠ 6 → r ≠ 9 → HI r = HD r) := hide (fun r h1 h6 h9 => by rw [hHI, upd_other _ _ h1, upd_other _ _ h6, upd_other _ _ h9])
                  have Hs13 := hide hs13
                  clear hHI hs13 HW
                  obtain ⟨iM, miI, miZ, miS, miB⟩ := info_parts info78
                  have hc5 : wc.cell? ⟨sb, 5, none⟩ = some (.slice a17 S.length d17) := by
                    have := (unhide HSc).cell (unhide eI1) (j := 5) (v := s13.moves) rfl
                    rw [this, unhide Hs13, ← unhide hs12m]
                  have Hm7 : Hid (RowV (HI 7) 78 1 (.slice a17 S.length d17) S.length ms) := hide (by rw [unhide eI 7 (by decide) (by decide) (by decide)]; exact unhide Hmoves)
                  have HI7 : Hid (∀ h', (upd HI 7 h') 1 = some (sb, .cells s13.arr 91 (0, 0))) := hide (fun h' => by rw [upd_other _ _ (by decide)]; exact unhide eI1)
                  go_upto_region 47 with (at_builtin; refine wpList_append_st (w0 := w0) (H := HI) (F := F') _ rfl (.tmp 279) (.tmp 280) 75 rfl 7 (by decide) 78 iM (.slice none 0 0) 1 24 Yba.underlying75 miI miZ miS miB rfl (by decide) (.slice a17 S.length d17) S.length ms rfl ((unhide HSc).alloc _) (unhide Hm7) ⟨wc.heap.size, 0, none⟩ 1 1 [.slice none 0 0] rfl rfl (cell_one_new _ _ _) (one_slice _ _ _) (by unfold maxLen; omega) (by omega) ?_; intro v10 wJ h10 hst10 hrow10 hnil10; obtain ⟨a19, d19, hv19⟩ := (unhide hrow10).sl; subst hv19; have hc5J : wJ.cell? ⟨sb, 5, none⟩ = some s13.moves := (unhide hst10).cell (unhide HI7 h10) rfl; have hz5J : wJ.frozen? ⟨sb, 5, none⟩ = false := (unhide hst10).frozen (unhide HI7 h10) 5)
                  obtain ⟨s14, hs14⟩ : ∃ s14 : Sv, s14 = { s13 with moves := .slice a19 (S.length + 1) d19 } := ⟨_, rfl⟩
                  obtain ⟨HL, hHL⟩ : ∃ HL, HL = upd (upd HI 7 h10) 1 (some (sb, .cells s14.arr 91 (0, 0))) := ⟨_, rfl⟩
                  have HSL : Hid (St w0 (wJ.setCell ⟨sb, 5, none⟩ (.slice a19 (S.length + 1) d19)) HL F') := hide (by rw [hHL, hs14]; exact (unhide hst10).set (unhide HI7 h10) 5 (.slice a19 (S.length + 1) d19))
                  generalize wJ.setCell ⟨sb, 5, none⟩ (.slice a19 (S.length + 1) d19) = wL at HSL ⊢
                  have eL1 : Hid (HL 1 = some (sb, .cells s14.arr 91 (0, 0))) := hide (by rw [hHL, upd_same])
                  have eL7 : Hid (HL 7 = h10) := hide (by rw [hHL, upd_other _ _ (by decide), upd_same])
                  have eL6 : Hid (HL 6 = h8) := hide (by rw [hHL, upd_other _ _ (by decide), upd_other _ _ (by decide)]; exact unhide eI6)
                  have eL9 : Hid (HL 9 = h9) := hide (by rw [hHL, upd_other _ _ (by decide), upd_other _ _ (by decide)]; exact unhide eI9)
                  have eL : Hid (∀ r, r ≠ 1 → r ≠ 6 → r ≠ 7 → r ≠ 9 → HL r = HD r) := hide (fun r h1 h6 h7 h9 => by rw [hHL, upd_other _ _ h1, upd_other _ _ h7]; exact unhide eI r h1 h6 h9)
                  have Hs14 : Hid (s14 = { s12 with sets := .slice a8 (S.length + 1) d8, moves := .slice a19 (S.length + 1) d19 }) := hide (by rw [hs14, unhide Hs13])
                  clear hHL hs14 hc5 hc5J hz5J hst10 HSc
                  have hc3 : wL.cell? ⟨sb, 3, none⟩ = some (.map (some mb)) := by
                    have := (unhide HSL).cell (unhide eL1) (j := 3) (v := s14.index) rfl
                    rw [this, unhide Hs14, unhide HSDs, ← unhide Hidx]
                  have HM9 : Hid (MapV 9 (HL 9) mb (mn + 1) (updL g (keyL N C) (S.length : Nat))) := hide (by rw [unhide eL9]; exact unhide HMF)
                  obtain ⟨wQ, hrun, h11, hstQ, hmQ⟩ := (unhide HM9).store (unhide HSL) lawS Yba.underlying87 (unhide HKl) (keyL_key N X) (by have := unhide HMn; unfold maxLen; omega) (S.length : Nat) (wf_small (by omega) (by omega))
                  have HSQ := hide hstQ
                  have HMQ := hide hmQ
                  clear hstQ hmQ
                  go_wp2
                  go_ret
                  have hgn := unhide HG2
                  rw [unhide HCe] at hgn
                  have hnm := (unhide HK).notMem hgn
                  have hfr := (unhide HK).fresh hN (unhide hE) hXN hgn
                  rw [unhide HX] at hnm
                  have hC' := unhide hC
                  have hs12 := unhide HSDs
                  have hs14 := unhide Hs14
                  have hmv : s.mark = .slice (some ⟨kb, 0, none⟩) N N := by have := unhide Hmv; rw [unhide HS6s] at this; exact this
                  have hU : ∀ r, r ≠ 1 → r ≠ 2 → r ≠ 3 → r ≠ 4 → r ≠ 5 → r ≠ 6 → r ≠ 7 → r ≠ 8 → r ≠ 9 → (upd HL 9 h11) r = H r := fun r a1 a2 a3 a4 a5 a6 a7 a8 a9 => by rw [upd_other _ _ a9, unhide eL r a1 a6 a7 a9, unhide eD r a1 a3 a4 a5 a8, unhide e6 r a1 a2 a5]
                  have hil : S.idxOf (Plain.closeM N E (Plain.maskOf fl)) = S.length := List.idxOf_eq_length hnm
                  refine ⟨ret_i64 (by rw [hil]), upd HL 9 h11, F', s14, M + 1, ?_, unhide HFG, fun r hr => hU r (by omega) (by omega) (by omega) (by omega) (by omega) (by omega) (by omega) (by omega) (by omega), Int.le_refl _, ?_⟩
                  · rw [if_neg hnm, if_neg hnm, ← unhide HX]
                    have hlS : (S ++ [Plain.closeM N E X]).length = S.length + 1 := by simp
                    refine ⟨unhide HSQ, ?_, ?_, hC'.nfa.mono (unhide HFG), ?_, ?_, ?_, ?_, ?_, ?_, ?_, ?_, ?_⟩
                    · rw [upd_other _ _ (by decide)]; exact unhide eL1
                    · rw [hs14, hs12]; exact hC'.nptr
                    · rw [upd_other _ _ (by decide), unhide eL 2 (by decide) (by decide) (by decide) (by decide), unhide eD 2 (by decide) (by decide) (by decide) (by decide) (by decide), hs14, hs12]; exact ⟨_, _, unhide HR3'⟩
                    · rw [upd_other _ _ (by decide), unhide eL 3 (by decide) (by decide) (by decide) (by decide), unhide eD3, hs14, hs12]; exact ⟨_, _, unhide HRj⟩
                    · rw [upd_other _ _ (by decide), unhide eL 4 (by decide) (by decide) (by decide) (by decide), unhide eD4, hs14, hs12]; exact ⟨_, _, unhide HR4⟩
                    · rw [upd_other _ _ (by decide), unhide eL 5 (by decide) (by decide) (by decide) (by decide), unhide eD5, hs14, hs12]; exact ⟨_, _, unhide HR7⟩
                    · refine ⟨_, by rw [upd_other _ _ (by decide), unhide eL6, hs14, hlS]; exact unhide HR8, ?_⟩
                      refine ⟨by simp [(unhide Hsis).1], fun i m hi => ?_⟩
                      by_cases hil2 : i < S.length
                      · rw [List.getElem?_append_left hil2] at hi
                        obtain ⟨v, hv1, hv2⟩ := (unhide Hsis).2 i m hi
                        exact ⟨v, by rw [List.getElem?_append_left (by rw [(unhide Hsis).1]; exact hil2)]; exact hv1, hv2.mono (unhide HFG)⟩
                      · have hie : i = S.length := by
                          have := (List.getElem?_eq_some_iff.1 hi).1
                          rw [hlS] at this
                          omega
                        subst hie
                        have hm2 : m = C := by rw [unhide HCe]; simpa using hi.symm
                        subst hm2
                        exact ⟨_, by rw [← (unhide Hsis).1]; simp, unhide HRG⟩
                    · rw [upd_other _ _ (by decide), unhide eL7, hs14, hlS]; exact unhide hrow10
                    · exact ⟨kb, mk', A, by rw [upd_other _ _ (by decide), unhide eL 8 (by decide) (by decide) (by decide) (by decide)]; exact unhide eD8, by rw [hs14, hs12]; exact hmv, unhide HMj⟩
                    · rw [hs14, hs12]; exact ⟨rfl, by omega⟩
                    · exact ⟨mb, mn + 1 + 1, _, by rw [hs14, hs12]; exact unhide Hidx, by rw [upd_same]; exact unhide HMQ, by rw [← unhide HCe] at hfr ⊢; exact hfr, by have := unhide HMn; omega⟩
                  · rw [hs14, hs12]; exact ⟨rfl, rfl, rfl, rfl⟩
          · skip
            rw [List.concat_eq_append] at hsnoc
            subst hsnoc
            have hll : (stk' ++ [q]).length = stk'.length + 1 := by simp
            rw [hll] at HRj ⊢
            rw [ints_snoc] at HRj
            obtain ⟨b9, hb9⟩ := (unhide HRj).head (by omega)
            subst hb9
            have hcap := (unhide HRj).cap
            have hsl := (unhide HSe).len
            rw [hll] at hsl
            have cq : wr.cell? ⟨b9, stk'.length, none⟩ = some (.int .i64 (q : Int)) := by
              have r3 : RowV ((upd (upd (upd H8 3 h3') 4 h4') 8 (some (kb, .cells mk' 3 (0, 0)))) 3) 3 1 (.slice (some ⟨b9, 0, none⟩) (stk'.length + 1) c') (stk'.length + 1) (ints stk' ++ [.int .i64 (q : Int)]) := by
                rw [upd_other _ _ (by decide), upd_other _ _ (by decide), upd_same]; exact unhide HRj
              exact r3.cell (unhide HSj) (by rw [List.getElem?_append_right (by simp [ints])]; simp [ints])
            have HRp := hide (unhide HRj).pop
            have HSp := hide (unhide HSe).pop
            have hqA := hide (((unhide HSe).mem q).2 (Or.inl (by simp)))
            have hqN : q < N := Plain.lt_of_testBit (unhide HSe).lt (unhide hqA)
            have HRq := hide ((unhide HRg).snoc hqN)
            clear HSe HRj HRg hll
            have HR4' : Hid (RowV ((upd (upd (upd H8 3 h3') 4 h4') 8 (some (kb, .cells mk' 3 (0, 0)))) 4) 3 1 (.slice a4 rch.length c4) rch.length (ints rch)) := hide (by rw [upd_other _ _ (by decide), upd_same]; exact unhide HR4)
            go_upto_region 23 with (at_builtin; refine wpList_append_st (w0 := w0) (H := upd (upd (upd H8 3 h3') 4 h4') 8 (some (kb, .cells mk' 3 (0, 0)))) (F := F) _ rfl (.tmp 123) (.tmp 125) 89 rfl 4 (by decide) 3 i0 (.int .i64 0) 1 8 Yba.underlying89 hi hz0 hz1 hz2 rfl (by decide) (.slice a4 rch.length c4) rch.length (ints rch) rfl ((unhide HSj).alloc _) (unhide HR4') ⟨wr.heap.size, 0, none⟩ 1 1 [.int .i64 (q : Int)] rfl rfl (cell_one_new _ _ _) (one_int _) (by unfold maxLen; omega) (by omega) ?_; intro v2 w2 h2 hst2 hrow2 hnil2)
            rw [upd_in _ _ _ _ (by decide)] at hst2
            rw [← ints_snoc] at hrow2
            obtain ⟨a2, d2, hv2⟩ := (unhide hrow2).sl
            subst hv2
            clear hnil2 HSj HR4' HR4 cq HF1
            have HF1 : Hid ((upd (upd (upd H8 3 h3') 4 h2) 8 (some (kb, .cells mk' 3 (0, 0)))) 1 = some (sb, .cells s8.arr 91 (0, 0))) := hide (by rw [unhide eb _ _ _ 1 (by decide) (by decide) (by decide)]; exact unhide e81)
            obtain ⟨nmb, av, cv, n1, n2, HRv⟩ := (unhide HC6).nfa.at (unhide hst2) hqN
            have c0 : w2.cell? ⟨sb, 0, none⟩ = some (.pointer (some ⟨nb, 0, none⟩)) := by rw [← unhide hs8n]; exact (unhide hst2).cell (unhide HF1) rfl
            have hqi : (q : Int) < (N : Int) := by omega
            go_wp2
            have HSp' : Hid (Plain.Search N E X A stk' (rch ++ [q]) (fun f x => f = q ∧ (x, 0) ∈ (Plain.movesQ E q).drop 0)) := hide (by rw [List.drop_zero]; exact unhide HSp)
            clear c0 n1 n2 HF1 HSp
            have hmq := hide (fun (p : Nat × Nat) (h : p ∈ Plain.movesQ E q) => Plain.mem_movesQ.1 h)
            have hLl : (Plain.movesQ E q).length ≤ 256 := unhide HML q
            go_loopw [9, 144] (fun v9 i wr => ∃ (j : Nat) (stk : List Nat) (h3' : Option (Nat × Obj)) (mk' : Array Value) (A : Nat) (a' : Option Addr) (c' : Nat), j ≤ (Plain.movesQ E q).length ∧ i = .int .i64 j ∧ 
              v9 = .slice a' stk.length c' ∧ Hid (St w0 wr (upd (upd (upd H8 3 h3') 4 h2) 8 (some (kb, .cells mk' 3 (0, 0)))) F) ∧ Hid (RowV h3' 3 1 (.slice a' stk.length c') stk.length (ints stk)) ∧ Hid (MarkIs mk' N (M + 1) A) ∧
              Hid (Plain.Search N E X A stk (rch ++ [q]) (fun f x => f = q ∧ (x, 0) ∈ (Plain.movesQ E q).drop j)) ∧ Hid (A.testBit q = true)) (fun _ i _ => (Plain.movesQ E q).length - (intOf i).toNat)
            case atStart => exact ⟨0, stk', h3', mk', A, _, c', Nat.zero_le _, rfl, rfl, hst2, HRp, HMj, HSp', hqA⟩
            case round =>
              clear hst2 HRp HMj HSp' hqA
              obtain ⟨j, stk, h3', mk', A, a', c', hj, rfl, rfl, HSj, HRj, HMj, HSe, hqA⟩ := hrel
              have HF1 : Hid ((upd (upd (upd H8 3 h3') 4 h2) 8 (some (kb, .cells mk' 3 (0, 0)))) 1 = some (sb, .cells s8.arr 91 (0, 0))) := hide (by rw [unhide eb _ _ _ 1 (by decide) (by decide) (by decide)]; exact unhide e81)
              by_cases hlt : j < (Plain.movesQ E q).length
              · obtain ⟨vb, hvb, hro⟩ := unhide HRv (by omega)
                subst hvb
                obtain ⟨⟨t, y⟩, hty⟩ : ∃ p, (Plain.movesQ E q)[j]? = some p := ⟨_, List.getElem?_eq_getElem hlt⟩
                obtain ⟨m1, m2, m3⟩ := mvCells_get _ _ _ _ hty
                have k1 : wr.cell? ⟨vb, j * 3, none⟩ = some (.int .i64 (t : Int)) := hro.cell (unhide HSj) m1
                have k2 : wr.cell? ⟨vb, j * 3 + 1, none⟩ = some (.int .i64 ((y : Int) - 1)) := hro.cell (unhide HSj) m2
                have k3 : wr.cell? ⟨vb, j * 3 + 2, none⟩ = some (.int .u8 0) := hro.cell (unhide HSj) m3
                have hmE := unhide hmq _ (List.mem_of_getElem? hty)
                have htN : t < N := unhide hE _ hmE
                rw [drop_cons hty] at HSe
                have HSw := hide ((unhide HSe).walk (unhide hE) (unhide hqA) hmE)
                clear HSe hty m1 m2 m3 hro
                obtain ⟨x, hx1, hx2, hx3, hx4⟩ := (unhide HMj).2 t htN
                have hkb : kb ≠ wr.heap.size := Nat.ne_of_lt ((unhide HSj).lt (upd_same _ _ _))
                have HSa := hide ((unhide HSj).alloc (.cells #[.int .i64 (t : Int), .int .i64 ((y : Int) - 1), .int .u8 0] 81 (0, 0)))
                have ma0 := cell_alloc_new wr #[.int .i64 (t : Int), .int .i64 ((y : Int) - 1), .int .u8 0] 81 (j := 0) rfl
                have ma1 := cell_alloc_new wr #[.int .i64 (t : Int), .int .i64 ((y : Int) - 1), .int .u8 0] 81 (j := 1) rfl
                go_upto_region 27 with fail
                generalize wr.alloc (.cells #[.int .i64 (t : Int), .int .i64 ((y : Int) - 1), .int .u8 0] 81 (0, 0)) = wa at HSa ma0 ma1 ⊢
                clear k1 k2 k3 HSj
                generalize wr.heap.size = mbk at hkb ma0 ma1 ⊢
                have c6 : wa.cell? ⟨sb, 6, none⟩ = some (.slice (some ⟨kb, 0, none⟩) N N) := by rw [← unhide hs8m]; exact (unhide HSa).cell (unhide HF1) rfl
                have c7 : wa.cell? ⟨sb, 7, none⟩ = some (.int .i64 (M + 1)) := by rw [← unhide hs8k]; exact (unhide HSa).cell (unhide HF1) rfl
                have ck : wa.cell? ⟨kb, t, none⟩ = some (.int .i64 x) := (unhide HSa).cell (upd_same _ _ _) hx1
                have zk : wa.frozen? ⟨kb, t, none⟩ = false := (unhide HSa).frozen (upd_same _ _ _) t
                have hti : (t : Int) < (N : Int) := by omega
                have HX4 := hide hx4
                clear hx1 hx4
                by_cases hy : y = 0
                · subst hy
                  have hm1 : ((0 : Nat) : Int) - 1 = -1 := rfl
                  rw [hm1] at ma1
                  by_cases hA : A.testBit t = true
                  · have hxM : x = M + 1 := (unhide HX4).2 hA
                    subst hxM
                    rw [if_neg (fun h => by rw [hA] at h; cases h.2), if_neg (fun h => by rw [hA] at h; cases h.2)] at HSw
                    go_quiet (fail)
                    go_wp2
                    go_roundw
                    case rel => exact ⟨j + 1, stk, h3', mk', A, a', c', by omega, by go_num, rfl, hide ((unhide HSa).drewN _), HRj, HMj, HSw, hqA⟩
                    case measure => simp [intOf]; omega
                  · have hxM : x ≠ M + 1 := fun e => hA ((unhide HX4).1 e)
                    have hAf : A.testBit t = false := by simpa using hA
                    rw [if_pos ⟨rfl, hAf⟩, if_pos ⟨rfl, hAf⟩] at HSw
                    have hsl2 := (unhide HSw).len
                    simp only [List.length_append, List.length_singleton] at hsl2
                    have HM2 := hide ((unhide HMj).set (t := t) (by omega) htN)
                    have hqA2 : Hid ((A ||| 2 ^ t).testBit q = true) := hide (by rw [Plain.testBit_bit, unhide hqA]; rfl)
                    go_quiet (fail)
                    have HSa2 := hide ((unhide HSa).drewN nq)
                    have ma0' : (wa.drewN nq).cell? ⟨mbk, 0, none⟩ = some (.int .i64 (t : Int)) := ma0
                    have c6' : (wa.drewN nq).cell? ⟨sb, 6, none⟩ = some (.slice (some ⟨kb, 0, none⟩) N N) := c6
                    have c7' : (wa.drewN nq).cell? ⟨sb, 7, none⟩ = some (.int .i64 (M + 1)) := c7
                    have ck' : (wa.drewN nq).cell? ⟨kb, t, none⟩ = some (.int .i64 x) := ck
                    have zk' : (wa.drewN nq).frozen? ⟨kb, t, none⟩ = false := zk
                    generalize wa.drewN nq = wb at HSa2 ma0' c6' c7' ck' zk' ⊢
                    clear HSa c6 c7 ck zk ma0 ma1 nq
                    have HSs := hide ((unhide HSa2).set (upd_same _ _ _) t (.int .i64 (M + 1)))
                    rw [upd_upd] at HSs
                    go_upto_region 28 with fail
                    go_region
                    have ma0 : (wb.setCell ⟨kb, t, none⟩ (.int .i64 (M + 1))).drew.cell? ⟨mbk, 0, none⟩ = some (.int .i64 (t : Int)) := cell_set_ne (w := wb) hkb ma0'
                    have HSk := hide (unhide HSs).drew
                    generalize (wb.setCell ⟨kb, t, none⟩ (.int .i64 (M + 1))).drew = wk at HSk ma0 ⊢
                    clear HSs HSa2 ma0' c6' c7' ck' zk'
                    have HRk : Hid (RowV ((upd (upd (upd H8 3 h3') 4 h2) 8 (some (kb, .cells (mk'.setIfInBounds t (.int .i64 (M + 1))) 3 (0, 0)))) 3) 3 1 (.slice a' stk.length c') stk.length (ints stk)) := hide (by rw [upd_other _ _ (by decide), upd_other _ _ (by decide), upd_same]; exact unhide HRj)
                    go_wp2_with (at_builtin; refine wpList_append_st (w0 := w0) (H := upd (upd (upd H8 3 h3') 4 h2) 8 (some (kb, .cells (mk'.setIfInBounds t (.int .i64 (M + 1))) 3 (0, 0)))) (F := F) _ rfl (.tmp 177) (.tmp 180) 89 rfl 3 (by decide) 3 i0 (.int .i64 0) 1 8 Yba.underlying89 hi hz0 hz1 hz2 rfl (by decide) (.slice a' stk.length c') stk.length (ints stk) rfl ((unhide HSk).alloc _) (unhide HRk) ⟨wk.heap.size, 0, none⟩ 1 1 [.int .i64 (t : Int)] rfl rfl (cell_one_new _ _ _) (one_int _) (by unfold maxLen; omega) (by omega) ?_; intro v5 w5 h5 hst5 hrow5 hnil5)
                    rw [upd_in2 _ _ _ _ _ (by decide) (by decide)] at hst5
                    rw [← ints_snoc] at hrow5
                    obtain ⟨a5, d5, hv5⟩ := (unhide hrow5).sl
                    subst hv5
                    clear hnil5 HSk HRk
                    go_wp2
                    go_roundw
                    case rel => exact ⟨j + 1, stk ++ [t], h5, _, A ||| 2 ^ t, a5, d5, by omega, by go_num, by simp, hst5, by simpa using hrow5, HM2, HSw, hqA2⟩
                    case measure => simp [intOf]; omega
                · have hyi : ((y : Int) - 1) ≠ -1 := by omega
                  rw [if_neg (fun h => hy h.1), if_neg (fun h => hy h.1)] at HSw
                  go_quiet (fail)
                  go_wp2
                  go_roundw
                  case rel => exact ⟨j + 1, stk, h3', mk', A, a', c', by omega, by go_num, rfl, hide ((unhide HSa).drewN _), HRj, HMj, HSw, hqA⟩
                  case measure => simp [intOf]; omega
              · have hjn : j = (Plain.movesQ E q).length := by omega
                subst hjn
                rw [List.drop_length] at HSe
                have HSd := hide (unhide HSe).done
                have hsl2 := (unhide HSd).len
                simp only [List.length_append, List.length_singleton] at hsl2
                clear HSe hlt hj
                go_wp2
                go_roundw
                case rel => exact ⟨stk, rch ++ [q], h3', h2, mk', A, a', c', a2, d2, _, _, rfl, by simp, rfl, rfl, HSj, HRj, by simpa using hrow2, HMj, HSd, HRq⟩
                case measure => simp; omega
end Go.Proofs.Ybulkie
