/-
  WHAT THE SUBSET CONSTRUCTION KEEPS: the struct's fields, the sets found, their keys, the marks, the automaton's moves.
-/
import Derived.Test.YbulkieSorted
import Derived.Test.YbulkieMaps
import Derived.Laws.BytesArg
namespace Go.Proofs.Ybulkie
open Go.RowKit Go.Maps

/-! ### Plain: keys -/

theorem closeM_idem {E : List (Nat × Nat × Nat)} {N m : Nat} (hE : ∀ e ∈ E, e.2.1 < N) : Plain.closeM N E (Plain.closeM N E m) = Plain.closeM N E m := by
  refine Plain.mask_ext fun q => ?_
  rw [Plain.closeM_iff hE, Plain.closeM_iff hE]
  constructor
  · intro h P h1 h2
    exact h P (fun x hx => (Plain.closeM_iff hE m x).1 hx P h1 h2) h2
  · intro h
    exact Plain.Reach.base ((Plain.closeM_iff hE m q).2 h)

def keyL (N X : Nat) : Lit := .string ((Plain.elems N X).map (fun q : Nat => UInt8.ofNat q))

theorem map_u8_inj : ∀ (a b : List Nat), (∀ q ∈ a, q < 256) → (∀ q ∈ b, q < 256) → a.map (fun q : Nat => UInt8.ofNat q) = b.map (fun q : Nat => UInt8.ofNat q) → a = b
  | [], [], _, _, _ => rfl
  | [], _ :: _, _, _, h => by simp at h
  | _ :: _, [], _, _, h => by simp at h
  | x :: a, y :: b, ha, hb, h => by
    simp only [List.map_cons, List.cons.injEq] at h
    have h1 := ha x (List.mem_cons_self ..)
    have h2 := hb y (List.mem_cons_self ..)
    have h3 : (UInt8.ofNat x).toNat = (UInt8.ofNat y).toNat := by rw [h.1]
    simp at h3
    have h4 : x = y := by omega
    rw [h4, map_u8_inj a b (fun q hq => ha q (List.mem_cons_of_mem _ hq)) (fun q hq => hb q (List.mem_cons_of_mem _ hq)) h.2]

theorem keyL_inj {N X Y : Nat} (hN : N ≤ 8) (hX : X < 2 ^ N) (hY : Y < 2 ^ N) (h : keyL N X = keyL N Y) : X = Y := by
  unfold keyL at h
  simp only [Lit.string.injEq] at h
  refine Plain.elems_inj hX hY (map_u8_inj _ _ ?_ ?_ h)
  · intro q hq; have := (Plain.mem_elems.1 hq).1; omega
  · intro q hq; have := (Plain.mem_elems.1 hq).1; omega

theorem keyL_key (N X : Nat) : WideAt.IsKeyLit (keyL N X) := trivial

/-- THE INDEX: each key of a set leads to the number of its closure; each set found is there. -/
structure KeyInv (N : Nat) (E : List (Nat × Nat × Nat)) (S : List Nat) (g : Lit → Option Int) : Prop where
  leads : ∀ X, X < 2 ^ N → ∀ v, g (keyL N X) = some v → ∃ i : Nat, v = (i : Int) ∧ S[i]? = some (Plain.closeM N E X)
  there : ∀ (i m : Nat), S[i]? = some m → g (keyL N m) = some (i : Int)
  good : Plain.Good N S

theorem KeyInv.notMem {N : Nat} {E : List (Nat × Nat × Nat)} {S : List Nat} {g : Lit → Option Int} (h : KeyInv N E S g) {c : Nat} (hn : g (keyL N c) = none) : c ∉ S := by
  intro hc
  obtain ⟨i, hi, he⟩ := List.mem_iff_getElem.1 hc
  have := h.there i c (by rw [List.getElem?_eq_getElem hi, he])
  rw [hn] at this
  cases this

theorem idxOf_of_get {S : List Nat} {i c : Nat} (hd : S.Nodup) (h : S[i]? = some c) : S.idxOf c = i := by
  obtain ⟨hi, he⟩ := List.getElem?_eq_some_iff.1 h
  subst he
  exact List.Nodup.idxOf_getElem hd i hi

/-- The key is known: its number is the closure's. -/
theorem KeyInv.hit {N : Nat} {E : List (Nat × Nat × Nat)} {S : List Nat} {g : Lit → Option Int} (h : KeyInv N E S g) {X : Nat} (hX : X < 2 ^ N) {v : Int} (hg : g (keyL N X) = some v) :
    v = (S.idxOf (Plain.closeM N E X) : Nat) ∧ Plain.closeM N E X ∈ S := by
  obtain ⟨i, hv, hi⟩ := h.leads X hX v hg
  exact ⟨by rw [hv, idxOf_of_get h.good.1 hi], List.mem_of_getElem? hi⟩

/-- The closure is known under its own key: the start's key is laid beside it. -/
theorem KeyInv.again {N : Nat} {E : List (Nat × Nat × Nat)} {S : List Nat} {g : Lit → Option Int} (hN : N ≤ 8) (hE : ∀ e ∈ E, e.2.1 < N) (h : KeyInv N E S g) {X : Nat} (hX : X < 2 ^ N) {v : Int} (hg : g (keyL N (Plain.closeM N E X)) = some v) :
    v = (S.idxOf (Plain.closeM N E X) : Nat) ∧ Plain.closeM N E X ∈ S ∧ KeyInv N E S (updL g (keyL N X) v) := by
  have hc := Plain.closeM_lt hE hX
  obtain ⟨i, hv, hi⟩ := h.leads _ hc v hg
  rw [closeM_idem hE] at hi
  refine ⟨by rw [hv, idxOf_of_get h.good.1 hi], List.mem_of_getElem? hi, ?_, ?_, h.good⟩
  · intro Y hY u hu
    by_cases e : keyL N Y = keyL N X
    · rw [e, updL_same _ (keyL_key N X)] at hu
      cases hu
      rw [keyL_inj hN hY hX e]
      exact ⟨i, hv, hi⟩
    · rw [updL_other _ e] at hu
      exact h.leads Y hY u hu
  · intro j m hj
    by_cases e : keyL N m = keyL N X
    · rw [e, updL_same _ (keyL_key N X)]
      have hm : m < 2 ^ N := h.good.2 m (List.mem_of_getElem? hj)
      have hmX := keyL_inj hN hm hX e
      subst hmX
      have h1 := h.there j m hj
      obtain ⟨i2, h2, h3⟩ := h.leads m hm _ h1
      have h4 : i2 = j := by omega
      subst h4
      have h5 : m = Plain.closeM N E m := by rw [hj] at h3; exact Option.some.inj h3
      rw [← h5] at hi
      have h6 : i = i2 := by
        have a1 := idxOf_of_get h.good.1 hi
        have a2 := idxOf_of_get h.good.1 hj
        omega
      rw [hv, h6]
    · rw [updL_other _ e]
      exact h.there j m hj

/-- The closure is new. -/
theorem KeyInv.fresh {N : Nat} {E : List (Nat × Nat × Nat)} {S : List Nat} {g : Lit → Option Int} (hN : N ≤ 8) (hE : ∀ e ∈ E, e.2.1 < N) (h : KeyInv N E S g) {X : Nat} (hX : X < 2 ^ N) (hg : g (keyL N (Plain.closeM N E X)) = none) :
    KeyInv N E (S ++ [Plain.closeM N E X]) (updL (updL g (keyL N (Plain.closeM N E X)) (S.length : Nat)) (keyL N X) (S.length : Nat)) := by
  have hc := Plain.closeM_lt hE hX
  have hnm := h.notMem hg
  have hlast : (S ++ [Plain.closeM N E X])[S.length]? = some (Plain.closeM N E X) := by simp
  refine ⟨?_, ?_, ?_⟩
  · intro Y hY u hu
    by_cases e : keyL N Y = keyL N X
    · rw [e, updL_same _ (keyL_key N X)] at hu
      cases hu
      rw [keyL_inj hN hY hX e]
      exact ⟨S.length, rfl, hlast⟩
    · rw [updL_other _ e] at hu
      by_cases e2 : keyL N Y = keyL N (Plain.closeM N E X)
      · rw [e2, updL_same _ (keyL_key _ _)] at hu
        cases hu
        rw [keyL_inj hN hY hc e2, closeM_idem hE]
        exact ⟨S.length, rfl, hlast⟩
      · rw [updL_other _ e2] at hu
        obtain ⟨i, hv, hi⟩ := h.leads Y hY u hu
        exact ⟨i, hv, by rw [List.getElem?_append_left (List.getElem?_eq_some_iff.1 hi).1]; exact hi⟩
  · intro j m hj
    by_cases hjl : j < S.length
    · rw [List.getElem?_append_left hjl] at hj
      have hm : m < 2 ^ N := h.good.2 m (List.mem_of_getElem? hj)
      have hmS := List.mem_of_getElem? hj
      have e2 : keyL N m ≠ keyL N (Plain.closeM N E X) := fun e => hnm (by rw [← keyL_inj hN hm hc e]; exact hmS)
      by_cases e : keyL N m = keyL N X
      · exfalso
        have hmX := keyL_inj hN hm hX e
        subst hmX
        have h1 := h.there j m hj
        obtain ⟨i2, h2, h3⟩ := h.leads m hm _ h1
        have h4 : i2 = j := by omega
        subst h4
        rw [hj] at h3
        have h5 := Option.some.inj h3
        exact e2 (by rw [← h5])
      · rw [updL_other _ e, updL_other _ e2]
        exact h.there j m hj
    · have hj2 : j = S.length := by
        have := (List.getElem?_eq_some_iff.1 hj).1
        simp at this
        omega
      subst hj2
      rw [hlast] at hj
      cases hj
      by_cases e : keyL N (Plain.closeM N E X) = keyL N X
      · rw [e, updL_same _ (keyL_key N X)]
      · rw [updL_other _ e, updL_same _ (keyL_key _ _)]
  · refine ⟨?_, ?_⟩
    · rw [List.nodup_append]
      refine ⟨h.good.1, by simp, ?_⟩
      intro a ha b hb
      simp at hb
      subst hb
      exact fun e => hnm (e ▸ ha)
    · intro x hx
      rcases List.mem_append.1 hx with hx | hx
      · exact h.good.2 x hx
      · simp at hx; subst hx; exact hc

/-! ### Memory -/

/-- The fields of a 'subsets'. -/
structure Sv where
  n : Value
  syms : Value
  limit : Value
  index : Value
  sets : Value
  moves : Value
  mark : Value
  marks : Value
  start : Value
  stack : Value
  reached : Value
  key : Value
  targets : Value
  read : Value

def Sv.arr (s : Sv) : Array Value := #[s.n, s.syms, s.limit, s.index, s.sets, s.moves, s.mark, s.marks, s.start, s.stack, s.reached, s.key, s.targets, s.read]

/-- A slice that is written no more, not nil, whose cells are xs. -/
def RoRow (F : Nat → Option (Array Value × TypeId)) (e : TypeId) (size : Nat) (v : Value) (n : Nat) (xs : List Value) : Prop :=
  xs.length = n * size ∧ ∃ b cap c, v = .slice (some ⟨b, 0, none⟩) n cap ∧ F b = some (c, e) ∧ n ≤ cap ∧ c.size = cap * size ∧ c.toList.take (n * size) = xs

theorem RoRow.cell {w0 w : World} {H : Nat → Option (Nat × Obj)} {F : Nat → Option (Array Value × TypeId)} {e : TypeId} {size n b cap : Nat} {xs : List Value} (hst : St w0 w H F)
    (h : RoRow F e size (.slice (some ⟨b, 0, none⟩) n cap) n xs) {j : Nat} {u : Value} (hj : xs[j]? = some u) : w.cell? ⟨b, j, none⟩ = some u := by
  obtain ⟨_, b', cap', c, h2, h3, h4, h5, h6⟩ := h
  cases h2
  refine hst.cellRo h3 ?_
  rw [← h6] at hj
  have : j < (List.take (n * size) c.toList).length := (List.getElem?_eq_some_iff.1 hj).1
  rw [List.getElem?_take_of_lt (by simp at this; omega)] at hj
  simpa using hj

def FLe (F F' : Nat → Option (Array Value × TypeId)) : Prop := ∀ b x, F b = some x → F' b = some x
theorem FLe.refl (F : Nat → Option (Array Value × TypeId)) : FLe F F := fun _ _ h => h
theorem FLe.trans {F F' F'' : Nat → Option (Array Value × TypeId)} (h : FLe F F') (k : FLe F' F'') : FLe F F'' := fun b x hx => k b x (h b x hx)

theorem RoRow.mono {F F' : Nat → Option (Array Value × TypeId)} (hf : FLe F F') {e : TypeId} {size : Nat} {v : Value} {n : Nat} {xs : List Value} (h : RoRow F e size v n xs) : RoRow F' e size v n xs := by
  obtain ⟨h1, b, cap, c, h2, h3, h4⟩ := h
  exact ⟨h1, b, cap, c, h2, hf _ _ h3, h4⟩

/-- The same, or nil and empty. -/
def RoRow0 (F : Nat → Option (Array Value × TypeId)) (e : TypeId) (size : Nat) (v : Value) (n : Nat) (xs : List Value) : Prop :=
  (v = .slice none 0 0 ∧ n = 0 ∧ xs = []) ∨ RoRow F e size v n xs

theorem RoRow0.mono {F F' : Nat → Option (Array Value × TypeId)} (hf : FLe F F') {e : TypeId} {size : Nat} {v : Value} {n : Nat} {xs : List Value} (h : RoRow0 F e size v n xs) : RoRow0 F' e size v n xs := Plain.or_mono id (RoRow.mono hf) h

/-- The moves that lead out of a state, as cells. -/
def mvCells (l : List (Nat × Nat)) : List Value := l.flatMap fun p => [.int .i64 (p.1 : Int), .int .i64 ((p.2 : Int) - 1), .int .u8 0]

/-- THE AUTOMATON, as 's.n' leads to it: written no more. A state without a move may hold nil. -/
structure Nfa (N : Nat) (E : List (Nat × Nat × Nat)) (F : Nat → Option (Array Value × TypeId)) (nb : Nat) : Prop where
  ex : ∃ mb rows, F nb = some (#[.slice (some ⟨mb, 0, none⟩) N N], 86) ∧ F mb = some (rows, 78) ∧ rows.size = N ∧
    ∀ q, q < N → ∃ v, rows[q]? = some v ∧ ((v = .slice none 0 0 ∧ Plain.movesQ E q = []) ∨ RoRow F 81 3 v (Plain.movesQ E q).length (mvCells (Plain.movesQ E q)))

theorem Nfa.mono {N : Nat} {E : List (Nat × Nat × Nat)} {F F' : Nat → Option (Array Value × TypeId)} {nb : Nat} (hf : FLe F F') (h : Nfa N E F nb) : Nfa N E F' nb := by
  obtain ⟨mb, rows, h1, h2, h3, h4⟩ := h.ex
  refine ⟨mb, rows, hf _ _ h1, hf _ _ h2, h3, fun q hq => ?_⟩
  obtain ⟨v, hv, h5⟩ := h4 q hq
  exact ⟨v, hv, Plain.or_mono id (RoRow.mono hf) h5⟩

/-- The marks: those of A bear the number M, the others a smaller one. -/
def MarkIs (mk : Array Value) (N : Nat) (M : Int) (A : Nat) : Prop :=
  mk.size = N ∧ ∀ q, q < N → ∃ x : Int, mk[q]? = some (.int .i64 x) ∧ x ≤ M ∧ -1 ≤ x ∧ (x = M ↔ A.testBit q = true)

theorem MarkIs.next {mk : Array Value} {N : Nat} {M : Int} {A : Nat} (h : MarkIs mk N M A) : MarkIs mk N (M + 1) 0 :=
  ⟨h.1, fun q hq => by obtain ⟨x, h1, h2, h3, _⟩ := h.2 q hq; exact ⟨x, h1, by omega, h3, by simp; omega⟩⟩

theorem MarkIs.set {mk : Array Value} {N : Nat} {M : Int} {A t : Nat} (h : MarkIs mk N M A) (hM : -1 ≤ M) (_ht : t < N) : MarkIs (mk.setIfInBounds t (.int .i64 M)) N M (A ||| 2 ^ t) := by
  refine ⟨by simp [h.1], fun q hq => ?_⟩
  rw [Array.getElem?_setIfInBounds]
  by_cases e : t = q
  · subst e
    refine ⟨M, by simp [h.1, hq], by omega, hM, ?_⟩
    rw [Plain.testBit_bit]; simp
  · rw [if_neg e]
    obtain ⟨x, h1, h2, h3, h4⟩ := h.2 q hq
    refine ⟨x, h1, h2, h3, ?_⟩
    rw [Plain.testBit_bit, h4]
    have : ¬ q = t := fun e' => e e'.symm
    simp [this]

/-- The sets found, as 's.sets' and 's.moves' hold them: a row of slices each. -/
def SetsIs (N : Nat) (F : Nat → Option (Array Value × TypeId)) (S : List Nat) (vs : List Value) : Prop :=
  vs.length = S.length ∧ ∀ (i m : Nat), S[i]? = some m → ∃ v, vs[i]? = some v ∧ RoRow0 F 3 1 v (Plain.elems N m).length (ints (Plain.elems N m))

theorem SetsIs.mono {N : Nat} {F F' : Nat → Option (Array Value × TypeId)} (hf : FLe F F') {S : List Nat} {vs : List Value} (h : SetsIs N F S vs) : SetsIs N F' S vs :=
  ⟨h.1, fun i m hi => by obtain ⟨v, h1, h2⟩ := h.2 i m hi; exact ⟨v, h1, h2.mono hf⟩⟩

/-- The key as a string. -/
theorem key_run {w0 w : World} {H : Nat → Option (Nat × Obj)} {F : Nat → Option (Array Value × TypeId)} (hst : St w0 w H F) {r : Nat} {kv : Value} {n : Nat} {l : List Nat} (hr : RowV (H r) 5 1 kv n (bytesV l)) :
    (convert 22 9 kv).run Yba.prog w = .ok (.string (strOfNums (castI l))) w := by
  have hn : l.length = n := by have := hr.1; simpa [bytesV] using this
  rcases hr.shape with ⟨rfl, h0⟩ | ⟨b, cap, rfl⟩
  · have hl : l = [] := List.length_eq_zero_iff.1 (by omega)
    subst hl
    rw [run_convert_bytes_nil w 22 5 Yba.underlying22 Yba.underlying5 0 0 9 Yba.underlying9]
    rfl
  · refine run_convert_bytes_arg w 22 5 Yba.underlying22 Yba.underlying5 b 0 n cap (castI l) (by simp [castI, hn]) (fun i hi => ?_) 9 Yba.underlying9
    have hi' : i < l.length := by omega
    rw [Nat.zero_add]
    refine hr.cell hst ?_
    simp [bytesV, castI, List.getD, hi']

theorem strOfNums_cast (l : List Nat) : (strOfNums (castI l)).data.toList = l.map (fun q : Nat => UInt8.ofNat q) := by
  rw [strOfNums_data]
  simp [castI]

/-- The key of a set, as the map takes it. -/
theorem keyOf_set {N X : Nat} (hN : N ≤ 8) : keyOf Yba.prog 9 (.string (strOfNums (castI (Plain.elems N X)))) = some (keyL N X) := by
  have hsz : (strOfNums (castI (Plain.elems N X))).size ≤ maxLen := by
    rw [strOfNums_size]
    have := Plain.nodup_le N (Plain.elems N X) (Plain.pw_mono (fun _ _ h => Nat.ne_of_lt h) (Plain.elems_sorted N X)) (fun q hq => (Plain.mem_elems.1 hq).1)
    unfold maxLen
    simp [castI]
    omega
  rw [Go.WideMaps.keyOf_string_mk Yba.underlying9 hsz, strOfNums_cast]
  rfl

theorem elems_len {N X : Nat} : (Plain.elems N X).length ≤ N := Plain.nodup_le N (Plain.elems N X) (Plain.pw_mono (fun _ _ h => Nat.ne_of_lt h) (Plain.elems_sorted N X)) (fun _ hq => (Plain.mem_elems.1 hq).1)

end Go.Proofs.Ybulkie
