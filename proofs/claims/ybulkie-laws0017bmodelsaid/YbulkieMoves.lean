/-
  movesOf (function 34), walked whole: the row of a set, as the model has it.
-/
import Derived.Test.YbulkieMv
import Derived.Laws.Cover3
import Derived.Laws.MakeOwn
namespace Go.Proofs.Ybulkie
open Go.RowKit Go.Maps

def MvPost (N K : Nat) (E : List (Nat × Nat × Nat)) (w0 : World) (H : Nat → Option (Nat × Obj)) (F : Nat → Option (Array Value × TypeId)) (sb nb : Nat) (s : Sv) (S : List Nat) (M : Int) (m i : Nat) (e : Ending) (w' : World) : Prop :=
  ∃ rv H' F' s' M' ms', e = .returned rv ∧ Cls N E w0 w' H' F' sb nb s' (Plain.rowTo N E S m K).1 M' ms' ∧ Tg K H' s' (fun _ => []) ∧ RoRow F' 81 3 rv (Plain.rowTo N E S m K).2.length (rwCells (Plain.rowTo N E S m K).2) ∧ FLe F F' ∧
    (∀ r, 15 < r → r ≠ 40 → H' r = H r) ∧ M' ≤ M + 3 ∧ (∀ j, i < j → j < (Plain.rowTo N E S m K).1.length → ms'[j]? = some (.slice none 0 0)) ∧ s'.syms = s.syms ∧ s'.limit = s.limit

theorem ro_head {F : Nat → Option (Array Value × TypeId)} {N m : Nat} {S : List Nat} {vs : List Value} (h : SetsIs N F S vs) {i : Nat} (hi : S[i]? = some m) : ∃ a c, vs[i]? = some (.slice a (Plain.elems N m).length c) ∧
    Hid (0 < (Plain.elems N m).length → ∃ b, a = some ⟨b, 0, none⟩ ∧ RoRow F 3 1 (.slice (some ⟨b, 0, none⟩) (Plain.elems N m).length c) (Plain.elems N m).length (ints (Plain.elems N m))) := by
  obtain ⟨v, h1, h2⟩ := h.2 i m hi
  obtain ⟨a, c, rfl, h3⟩ := h2.sl
  exact ⟨a, c, h1, h3⟩

theorem Ph1.turn {K : Nat} {w0 wr w2 : World} {H0 : Nat → Option (Nat × Obj)} {F : Nat → Option (Array Value × TypeId)} {tb : Nat} {P : List (Nat × Nat)} {n : Nat} {rv : Value} {HR : Nat → Option (Nat × Obj)} {tv : Array Value} {rd : List Nat}
    (h : Ph1 K w0 wr H0 F tb P n rv HR tv rd) (hst : St w0 w2 HR F) : Ph1 K w0 w2 H0 F tb P n rv HR tv rd := ⟨hst, h.keep, h.rows, h.read, h.row⟩

theorem Ph1.newm {K : Nat} {w0 wr w2 : World} {H0 : Nat → Option (Nat × Obj)} {F : Nat → Option (Array Value × TypeId)} {tb : Nat} {P : List (Nat × Nat)} {n : Nat} {rv : Value} {HR : Nat → Option (Nat × Obj)} {tv : Array Value} {rd : List Nat} {x : Option (Nat × Obj)}
    (hK : K ≤ 3) (h : Ph1 K w0 wr H0 F tb P n rv HR tv rd) (hst : St w0 w2 (upd HR 40 x) F) : Ph1 K w0 w2 H0 F tb P n rv (upd HR 40 x) tv rd :=
  ⟨hst, fun r hr => by rw [upd_other _ _ (by omega)]; exact h.keep r hr, h.rows.congr (fun r h1 h2 => upd_other _ _ (by omega)) (fun _ _ => rfl), h.read, by rw [upd_other _ _ (by decide)]; exact h.row⟩

/-- A move that reads nothing is met. -/
theorem Ph1.skip {K : Nat} {w0 wr : World} {H0 : Nat → Option (Nat × Obj)} {F : Nat → Option (Array Value × TypeId)} {tb : Nat} {P : List (Nat × Nat)} {n : Nat} {rv : Value} {HR : Nat → Option (Nat × Obj)} {tv : Array Value} {rd : List Nat} (t : Nat)
    (h : Ph1 K w0 wr H0 F tb P n rv HR tv rd) : Ph1 K w0 wr H0 F tb (P ++ [(t, 0)]) n rv HR tv rd :=
  ⟨h.st, h.keep, h.rows.congr (fun _ _ _ => rfl) (fun sym _ => by rw [Plain.tgt_snoc, if_neg (by omega)]), h.read.skip t, h.row⟩

theorem read_le {K : Nat} {P : List (Nat × Nat)} {rd : List Nat} (h : Plain.ReadIs P rd) (hP : ∀ p ∈ P, p.2 ≤ K) : rd.length ≤ K := by
  refine Plain.nodup_le K rd h.1 fun sym hs => ?_
  have h1 := (h.2 sym).1 hs
  obtain ⟨t, ht⟩ := List.exists_mem_of_ne_nil _ h1
  have := hP _ (Plain.mem_tgt.1 ht)
  simp at this
  omega

theorem take_snoc {α : Type} {l : List α} {j : Nat} {x : α} (h : l[j]? = some x) : l.take (j + 1) = l.take j ++ [x] := by
  obtain ⟨h1, h2⟩ := List.getElem?_eq_some_iff.1 h
  rw [List.take_add_one, h]
  simp

theorem Ph1.nle {K : Nat} {w0 wr : World} {H0 : Nat → Option (Nat × Obj)} {F : Nat → Option (Array Value × TypeId)} {tb : Nat} {E : List (Nat × Nat × Nat)} {l : List Nat} {q jj : Nat} {n : Nat} {rv : Value} {HR : Nat → Option (Nat × Obj)} {tv : Array Value} {rd : List Nat}
    (h : Ph1 K w0 wr H0 F tb (Plain.movesL E l ++ (Plain.movesQ E q).take jj) n rv HR tv rd) (hEs : ∀ e ∈ E, e.2.2 ≤ K) : n ≤ K := by
  have h1 := read_le h.read (fun p hp => by
    rcases List.mem_append.1 hp with hp | hp
    · obtain ⟨q, _, h2⟩ := Plain.mem_movesL.1 (show (p.1, p.2) ∈ Plain.movesL E l from hp)
      exact hEs _ h2
    · exact hEs _ (Plain.mem_movesQ.1 (show (p.1, p.2) ∈ Plain.movesQ E q from List.mem_of_mem_take hp)))
  have h2 := h.row.1
  simp [ints] at h2
  omega

/-- A move that reads is met, its symbol is noted; its target is not yet laid. -/
structure Ph2 (K : Nat) (w0 wr : World) (H0 : Nat → Option (Nat × Obj)) (F : Nat → Option (Array Value × TypeId)) (tb : Nat) (P : List (Nat × Nat)) (t sym n : Nat) (rv : Value) (HR : Nat → Option (Nat × Obj)) (tv : Array Value) (rd : List Nat) (mvb : Nat) : Prop where
  st : St w0 wr HR F
  keep : ∀ r, r < 10 ∨ (14 < r ∧ r ≠ 40) → HR r = H0 r
  rows : TgRows K HR tb tv (Plain.tgt P)
  read : Plain.ReadIs (P ++ [(t, sym + 1)]) rd
  row : RowV (HR 14) 3 1 rv n (ints rd)
  mv : HR 40 = some (mvb, .cells #[.int .i64 (t : Int), .int .i64 (sym : Int), .int .u8 0] 81 (0, 0))

/-- A new, empty row of moves. -/
theorem make_st {w0 w : World} {H : Nat → Option (Nat × Obj)} {F : Nat → Option (Array Value × TypeId)} (hst : St w0 w H F) (c : Nat) (hc : c ≤ 1000) :
    ∃ w', (Instr.makeSlice 78 (.int .i64 0) (.int .i64 (c : Int))).run Yba.prog w = .ok (.slice (some ⟨w.heap.size, 0, none⟩) 0 c) w' ∧ ∃ h15, St w0 w' (upd H 15 h15) F ∧ RowV h15 81 3 (.slice (some ⟨w.heap.size, 0, none⟩) 0 c) 0 [] := by
  obtain ⟨iM, miI, miZ, miS, miB⟩ := info_parts info81
  obtain ⟨w', h1, h2, h3⟩ := run_make_own (P := Yba.prog) w w.heap.size 78 81 iM _ 3 Yba.underlying78 miI miZ miS .i64 .i64 c (by rw [miB]; omega) (by unfold maxLen; omega) (Nat.le_refl _)
  refine ⟨w', h1, ?_⟩
  have hb : Below w.heap.size w w' := ⟨h3.os, h3.tape, h3.output, h3.size, fun k hk => h3.block k hk (by simp)⟩
  rcases h2.2 with ⟨g1, _⟩ | ⟨g, cap, cur, g1, g2, g3, g4, g5, g6, g7⟩
  · cases g1
  · cases g1
    exact ⟨_, hst.new (r := 15) (by decide) hb g3 g2, h2.1, Or.inr ⟨_, c, cur, rfl, rfl, g4, g5, g6, g7⟩⟩

theorem cell_three_new (w : World) (x y z : Value) (t : TypeId) : ∀ j u, [x, y, z][j]? = some u → (w.alloc (.cells #[x, y, z] t (0, 0))).cell? ((⟨w.heap.size, 0, none⟩ : Addr).add j) = some u := by
  intro j u hj
  rw [Go.WideShapes.add_plain, Nat.zero_add]
  exact cell_alloc_new w #[x, y, z] t (by simpa using hj)

theorem three_one (x y : Int) : ∀ u ∈ [Value.int .i64 x, .int .i64 y, .int .u8 0], u.oneCell' = true := by
  intro u hu
  simp only [List.mem_cons, List.not_mem_nil, or_false] at hu
  rcases hu with rfl | rfl | rfl <;> rfl

/-- One cell of a role's row is stored. -/
theorem RowV.stored {h : Option (Nat × Obj)} {e : TypeId} {b n cap : Nat} {xs : List Value} (hr : RowV h e 1 (.slice (some ⟨b, 0, none⟩) n cap) n xs) (j : Nat) (v : Value) :
    ∃ cur, h = some (b, .cells cur e (0, 0)) ∧ RowV (some (b, .cells (cur.setIfInBounds j v) e (0, 0))) e 1 (.slice (some ⟨b, 0, none⟩) n cap) n (xs.set j v) := by
  rcases hr.2 with ⟨h1, _, _⟩ | ⟨g, cap', cur, h1, h2, h3, h4, h5, h6⟩
  · cases h1
  · cases h2
    refine ⟨cur, h1, by simpa using hr.1, Or.inr ⟨b, cap, _, rfl, rfl, h3, h4, by simp [h5], ?_⟩⟩
    rw [Array.toList_setIfInBounds, List.take_set, h6]

/-- A role's row is written no more. -/
theorem RowV.freeze {w0 w : World} {H : Nat → Option (Nat × Obj)} {F : Nat → Option (Array Value × TypeId)} {r : Nat} {e : TypeId} {size : Nat} {v : Value} {n : Nat} {xs : List Value} (hr : RowV (H r) e size v n xs) (hst : St w0 w H F) (hv : v ≠ .slice none 0 0) :
    ∃ F', St w0 w (upd H r none) F' ∧ FLe F F' ∧ RoRow F' e size v n xs := by
  rcases hr.2 with ⟨h1, _, _⟩ | ⟨b, cap, cur, h1, h2, h3, h4, h5, h6⟩
  · exact absurd h1 hv
  · exact ⟨_, hst.freeze h1, hst.freeze_keeps h1, hr.1, b, cap, cur, h2, upd_same _ _ _, h3, h5, h6⟩

/-- THE STATE WHILE THE ROW IS BUILT: j symbols are done. -/
structure Ph3 (N K : Nat) (E : List (Nat × Nat × Nat)) (w0 wr : World) (H : Nat → Option (Nat × Obj)) (F : Nat → Option (Array Value × TypeId)) (sb nb : Nat) (s : Sv) (S : List Nat) (M : Int) (m i : Nat) (tb : Nat) (rs : List Nat) (rdv : Value) (j : Nat) (rv : Value)
    (H' : Nat → Option (Nat × Obj)) (F' : Nat → Option (Array Value × TypeId)) (s' : Sv) (M' : Int) (ms' : List Value) (tv : Array Value) : Prop where
  cls : Cls N E w0 wr H' F' sb nb s' (Plain.rowOf N E S m (rs.take j)).1 M' ms'
  rows : TgRows K H' tb tv (fun x => if x ∈ rs.take j then [] else Plain.tgt (Plain.movesL E (Plain.elems N m)) x)
  tgs : s'.targets = .slice (some ⟨tb, 0, none⟩) K K
  read : s'.read = rdv ∧ RowV (H' 14) 3 1 rdv rs.length (ints rs)
  row : RowV (H' 15) 81 3 rv j (rwCells (Plain.rowOf N E S m (rs.take j)).2)
  nn : rv ≠ .slice none 0 0
  fle : FLe F F'
  keep : ∀ r, 15 < r → r ≠ 40 → H' r = H r
  mle : M' ≤ M + j
  nils : ∀ x, i ≤ x → x < (Plain.rowOf N E S m (rs.take j)).1.length → ms'[x]? = some (.slice none 0 0)
  pass : s'.syms = s.syms ∧ s'.limit = s.limit

theorem Cls.move {N : Nat} {E : List (Nat × Nat × Nat)} {w0 w w' : World} {H H' : Nat → Option (Nat × Obj)} {F : Nat → Option (Array Value × TypeId)} {sb nb : Nat} {s : Sv} {S : List Nat} {M : Int} {ms : List Value}
    (h : Cls N E w0 w H F sb nb s S M ms) (hst : St w0 w' H' F) (e : ∀ r, r < 10 → H' r = H r) : Cls N E w0 w' H' F sb nb s S M ms := by
  refine ⟨hst, ?_, h.nptr, h.nfa, ?_, ?_, ?_, ?_, ?_, ?_, ?_, h.marks, ?_⟩
  · rw [e 1 (by decide)]; exact h.fields
  · rw [e 2 (by decide)]; exact h.start
  · rw [e 3 (by decide)]; exact h.stack
  · rw [e 4 (by decide)]; exact h.reached
  · rw [e 5 (by decide)]; exact h.key
  · rw [e 6 (by decide)]; exact h.sets
  · rw [e 7 (by decide)]; exact h.moves
  · rw [e 8 (by decide)]; exact h.mark
  · rw [e 9 (by decide)]; exact h.index

set_option maxRecDepth 100000 in
set_option maxHeartbeats 8000000 in
set_option linter.unusedSimpArgs false in
theorem moves_any {N K : Nat} {E : List (Nat × Nat × Nat)} {w0 w : World} {H : Nat → Option (Nat × Obj)} {F : Nat → Option (Array Value × TypeId)} {sb nb : Nat} {s : Sv} {S : List Nat} {M : Int} {ms : List Value}
    (hC : Hid (Cls N E w0 w H F sb nb s S M ms)) (hT : Hid (Tg K H s (fun _ => []))) (hN0 : 0 < N) (hN : N ≤ 8) (hK0 : 0 < K) (hK : K ≤ 3) (hE : Hid (∀ e ∈ E, e.2.1 < N)) (hEs : Hid (∀ e ∈ E, e.2.2 ≤ K)) (hEl : E.length ≤ 256) (hM : M ≤ 90000)
    (i m : Nat) (hi : Hid (S[i]? = some m)) (hms : Hid (∀ j, i ≤ j → j < S.length → ms[j]? = some (.slice none 0 0))) :
    Calls Yba.prog 34 #[.pointer (some ⟨sb, 0, none⟩), .int .i64 (i : Int)] w (MvPost N K E w0 H F sb nb s S M m i) := by
  obtain ⟨i0, hii, hz0, hz1, hz2⟩ := info_parts info3
  have hC' := unhide hC
  have hiS : i < S.length := (List.getElem?_eq_some_iff.1 (unhide hi)).1
  have hmS : m ∈ S := List.mem_of_getElem? (unhide hi)
  obtain ⟨mb, mn, g, _, _, hkey, _⟩ := hC'.index
  have hSl := Good.le256 hkey.good hN
  have hm2 : m < 2 ^ N := hkey.good.2 m hmS
  clear hkey
  obtain ⟨a17, d17, hv17⟩ := hC'.moves.sl
  obtain ⟨vs, hsets, hsis⟩ := hC'.sets
  obtain ⟨a6, d6, hv6⟩ := hsets.sl
  obtain ⟨tb, tv0, htg, hrows⟩ := (unhide hT).rows
  obtain ⟨n14, xs14, r14⟩ := (unhide hT).read
  have hmv := hC'.moves
  rw [hv17] at hmv
  rw [hv6] at hsets
  obtain ⟨b17, hb17⟩ := hmv.head (by omega)
  obtain ⟨b6, hb6⟩ := hsets.head (by omega)
  subst hb17 hb6
  obtain ⟨aS, cS, hS1, HSr⟩ := ro_head hsis (unhide hi)
  have c5 : w.cell? ⟨sb, 5, none⟩ = some (.slice (some ⟨b17, 0, none⟩) S.length d17) := by rw [← hv17]; exact hC'.st.cell hC'.fields rfl
  have c17 : w.cell? ⟨b17, i, none⟩ = some (.slice none 0 0) := hmv.cell hC'.st (unhide hms i (Nat.le_refl _) hiS)
  have c13 : w.cell? ⟨sb, 13, none⟩ = some s.read := hC'.st.cell hC'.fields rfl
  have k13 := run_cut89 r14
  have c4 : w.cell? ⟨sb, 4, none⟩ = some (.slice (some ⟨b6, 0, none⟩) S.length d6) := by rw [← hv6]; exact hC'.st.cell hC'.fields rfl
  have c6 : w.cell? ⟨b6, i, none⟩ = some (.slice aS (Plain.elems N m).length cS) := hsets.cell hC'.st hS1
  obtain ⟨a14, d14, hv14⟩ := r14.cut.sl
  have hii2 : (i : Int) < (S.length : Int) := by omega
  have hel : (Plain.elems N m).length ≤ 8 := by have := elems_len (N := N) (X := m); omega
  have HP0 : Hid (Ph1 K w0 w H F tb (Plain.movesL E ((Plain.elems N m).take 0)) 0 (.slice a14 0 d14) H tv0 []) := hide ⟨hC'.st, fun _ _ => rfl, by
    refine hrows.congr (fun _ _ _ => rfl) (fun sym _ => ?_)
    simp [Plain.movesL, Plain.tgt_nil], by simp [Plain.movesL]; exact Plain.ReadIs.nil, by rw [← hv14]; exact r14.cut⟩
  have Hst0 : Hid (s.targets = .slice (some ⟨tb, 0, none⟩) K K) := hide htg
  have Hmv := hide hmv
  have Hv17 := hide hv17
  have Hf := hide hC'.fields
  have Hnf := hide hC'.nfa
  have Hnp := hide hC'.nptr
  clear hmv hsis hsets hrows r14 hC' hv6 hv17 htg hS1
  go_enter Yba.func34, Yba.ntmps34
  go_upto_region 4 with fail
  clear hv14 c5 c17 c13 k13
  go_wp2
  clear c4 c6
  go_loopw [5, 41] (fun v5 v41 wr => ∃ (j n : Nat) (a : Option Addr) (c : Nat) (HR : Nat → Option (Nat × Obj)) (tv : Array Value) (rd : List Nat), j ≤ (Plain.elems N m).length ∧ v41 = .int .i64 j ∧ v5 = .slice a n c ∧ Hid (Ph1 K w0 wr H F tb (Plain.movesL E ((Plain.elems N m).take j)) n (.slice a n c) HR tv rd)) (fun _ v41 _ => (Plain.elems N m).length - (intOf v41).toNat)
  case atStart => exact ⟨0, 0, a14, d14, H, tv0, [], Nat.zero_le _, rfl, rfl, HP0⟩
  case round =>
    clear HP0
    obtain ⟨j, n, a, c, HR, tv, rd, hj, rfl, rfl, HP⟩ := hrel
    have HF1 : Hid (HR 1 = some (sb, .cells s.arr 91 (0, 0))) := hide (by rw [(unhide HP).keep 1 (Or.inl (by decide))]; exact unhide Hf)
    by_cases hlt : j < (Plain.elems N m).length
    · skip
      obtain ⟨bS, hbS, hroS⟩ := unhide HSr (by omega)
      subst hbS
      obtain ⟨q, hq⟩ : ∃ q, (Plain.elems N m)[j]? = some q := ⟨_, List.getElem?_eq_getElem hlt⟩
      have hqN : q < N := (Plain.mem_elems.1 (List.mem_of_getElem? hq)).1
      have cq : wr.cell? ⟨bS, j, none⟩ = some (.int .i64 (q : Int)) := hroS.cell (unhide HP).st (by rw [ints, List.getElem?_map, hq]; rfl)
      obtain ⟨nmb, av, cv, n1, n2, HRv⟩ := (unhide Hnf).at (unhide HP).st hqN
      have c0 : wr.cell? ⟨sb, 0, none⟩ = some (.pointer (some ⟨nb, 0, none⟩)) := by rw [← unhide Hnp]; exact (unhide HP).st.cell (unhide HF1) rfl
      have hqi : (q : Int) < (N : Int) := by omega
      have Hq := hide hq
      clear hq hroS
      go_wp2
      clear c0 n1 n2 cq
      have hLl : (Plain.movesQ E q).length ≤ 256 := Nat.le_trans (Plain.movesQ_len E q) hEl
      have HPb : Hid (Ph1 K w0 wr H F tb (Plain.movesL E ((Plain.elems N m).take j) ++ (Plain.movesQ E q).take 0) n (.slice a n c) HR tv rd) := hide (by rw [List.take_zero, List.append_nil]; exact unhide HP)
      go_loopw [5, 56] (fun v5 v56 wr => ∃ (jj n : Nat) (a : Option Addr) (c : Nat) (HR : Nat → Option (Nat × Obj)) (tv : Array Value) (rd : List Nat), jj ≤ (Plain.movesQ E q).length ∧ v56 = .int .i64 jj ∧ v5 = .slice a n c ∧ Hid (Ph1 K w0 wr H F tb (Plain.movesL E ((Plain.elems N m).take j) ++ (Plain.movesQ E q).take jj) n (.slice a n c) HR tv rd)) (fun _ v56 _ => (Plain.movesQ E q).length - (intOf v56).toNat)
      case atStart => exact ⟨0, n, a, c, HR, tv, rd, Nat.zero_le _, rfl, rfl, HPb⟩
      case round =>
        clear HPb HP HF1
        obtain ⟨jj, n, a, c, HR, tv, rd, hjj, rfl, rfl, HP⟩ := hrel
        have HF1 : Hid (HR 1 = some (sb, .cells s.arr 91 (0, 0))) := hide (by rw [(unhide HP).keep 1 (Or.inl (by decide))]; exact unhide Hf)
        by_cases hlt2 : jj < (Plain.movesQ E q).length
        · obtain ⟨vb, hvb, hro⟩ := unhide HRv (by omega)
          subst hvb
          obtain ⟨⟨t, y⟩, hty⟩ : ∃ p, (Plain.movesQ E q)[jj]? = some p := ⟨_, List.getElem?_eq_getElem hlt2⟩
          obtain ⟨m1, m2, m3⟩ := mvCells_get _ _ _ _ hty
          have k1 : wr.cell? ⟨vb, jj * 3, none⟩ = some (.int .i64 (t : Int)) := hro.cell (unhide HP).st m1
          have k2 : wr.cell? ⟨vb, jj * 3 + 1, none⟩ = some (.int .i64 ((y : Int) - 1)) := hro.cell (unhide HP).st m2
          have k3 : wr.cell? ⟨vb, jj * 3 + 2, none⟩ = some (.int .u8 0) := hro.cell (unhide HP).st m3
          have hmE := Plain.mem_movesQ.1 (List.mem_of_getElem? hty)
          have hyK : y ≤ K := unhide hEs _ hmE
          have hsn : Hid ((Plain.movesQ E q).take (jj + 1) = (Plain.movesQ E q).take jj ++ [(t, y)]) := hide (take_snoc hty)
          have hn3 : n ≤ K := (unhide HP).nle (unhide hEs)
          clear m1 m2 m3 hro hty
          cases y with
          | zero =>
            have ez : (((0 : Nat) : Int) - 1) = -1 := rfl
            rw [ez] at k2
            have HPm := hide ((unhide HP).newm hK ((unhide HP).st.newAlloc (r := 40) (by decide) (.cells #[.int .i64 (t : Int), .int .i64 (-1), .int .u8 0] 81 (0, 0))))
            go_wp2
            go_roundw
            case rel => exact ⟨jj + 1, n, a, c, _, tv, rd, by omega, by go_num, rfl, hide (by rw [unhide hsn, ← List.append_assoc]; exact (unhide HPm).skip t)⟩
            case measure => simp [intOf]; omega
          | succ sym =>
            have es : (((sym + 1 : Nat) : Int) - 1) = (sym : Int) := by omega
            rw [es] at k2
            have HPm := hide ((unhide HP).newm hK ((unhide HP).st.newAlloc (r := 40) (by decide) (.cells #[.int .i64 (t : Int), .int .i64 (sym : Int), .int .u8 0] 81 (0, 0))))
            have hsK : (sym : Int) < (K : Int) := by omega
            go_upto_region 11 with fail
            generalize wr.alloc (.cells #[.int .i64 (t : Int), .int .i64 (sym : Int), .int .u8 0] 81 (0, 0)) = wa at HPm ⊢
            generalize wr.heap.size = mvb at HPm ⊢
            clear k1 k2 k3 HP
            obtain ⟨HM, hHM⟩ : ∃ HM, HM = upd HR 40 (some (mvb, .cells #[.int .i64 (t : Int), .int .i64 (sym : Int), .int .u8 0] 81 (0, 0))) := ⟨_, rfl⟩
            have e40 : Hid (HM 40 = some (mvb, .cells #[.int .i64 (t : Int), .int .i64 (sym : Int), .int .u8 0] 81 (0, 0))) := hide (by rw [hHM, upd_same])
            have HF1' : Hid (HM 1 = some (sb, .cells s.arr 91 (0, 0))) := hide (by rw [hHM, upd_other _ _ (by decide)]; exact unhide HF1)
            rw [← hHM] at HPm
            clear hHM HF1
            obtain ⟨P, hP⟩ : ∃ P, P = Plain.movesL E ((Plain.elems N m).take j) ++ (Plain.movesQ E q).take jj := ⟨_, rfl⟩
            rw [← hP] at HPm
            have HeP := hide hP
            have hPl : P.length ≤ 256 := by
              have h1 : (Plain.movesL E ((Plain.elems N m).take (j + 1))).length ≤ E.length := Plain.movesL_len _ ((Plain.elems_nodup N m).sublist (List.take_sublist _ _)) E
              rw [take_snoc (unhide Hq), Plain.movesL_snoc, List.length_append] at h1
              rw [hP, List.length_append, List.length_take]
              omega
            clear hP
            have hsKn : sym < K := by omega
            obtain ⟨at1, ct, ht1, ht2⟩ := (unhide HPm).rows.cell hsKn
            have htl : (Plain.tgt P sym).length ≤ 256 := Nat.le_trans (Plain.tgt_len P sym) hPl
            have c12 : wa.cell? ⟨sb, 12, none⟩ = some (.slice (some ⟨tb, 0, none⟩) K K) := by rw [← unhide Hst0]; exact (unhide HPm).st.cell (unhide HF1') rfl
            have ctv : wa.cell? ⟨tb, sym, none⟩ = some (.slice at1 (Plain.tgt P sym).length ct) := (unhide HPm).st.cell (unhide HPm).rows.1 ht1
            have m0 : wa.cell? ⟨mvb, 0, none⟩ = some (.int .i64 (t : Int)) := (unhide HPm).st.cell (unhide e40) rfl
            have m1 : wa.cell? ⟨mvb, 1, none⟩ = some (.int .i64 (sym : Int)) := (unhide HPm).st.cell (unhide e40) rfl
            have Htr := hide ht2
            clear ht1 ht2
            obtain ⟨nt, hnt⟩ : ∃ nt, nt = (Plain.tgt P sym).length := ⟨_, rfl⟩
            rw [← hnt] at ctv Htr htl
            have Hnt := hide hnt
            clear hnt
            by_cases hz : nt = 0
            · subst hz
              have HRd : Hid (Plain.ReadIs (P ++ [(t, sym + 1)]) (rd ++ [sym])) := hide ((unhide HPm).read.new t (List.length_eq_zero_iff.1 (unhide Hnt).symm))
              go_quiet (fail)
              have HSa := hide ((unhide HPm).st.drewN nq)
              have m1' : (wa.drewN nq).cell? ⟨mvb, 1, none⟩ = some (.int .i64 (sym : Int)) := m1
              generalize wa.drewN nq = wx at HSa m1' ⊢
              go_upto_region 13 with (at_builtin; refine wpList_append_st (w0 := w0) (H := HM) (F := F) _ rfl (.tmp 73) (.tmp 76) 89 rfl 14 (by decide) 3 i0 (.int .i64 0) 1 8 Yba.underlying89 hii hz0 hz1 hz2 rfl (by decide) (.slice a n c) n (ints rd) rfl ((unhide HSa).alloc _) (unhide HPm).row ⟨wx.heap.size, 0, none⟩ 1 1 [.int .i64 (sym : Int)] rfl rfl (cell_one_new _ _ _) (one_int _) (by unfold maxLen; omega) (by omega) ?_; intro v5 wb h14 hst14 hrow14 hnil14; obtain ⟨ab, cb, hvb⟩ := (unhide hrow14).sl; subst hvb)
              have HB : Hid (Ph2 K w0 wb H F tb P t sym (n + 1) (.slice ab (n + 1) cb) (upd HM 14 h14) tv (rd ++ [sym]) mvb) := hide ⟨unhide hst14, fun r hr => by rw [upd_other _ _ (by omega)]; exact (unhide HPm).keep r hr, (unhide HPm).rows.congr (fun r h1 h2 => upd_other _ _ (by omega)) (fun _ _ => rfl), unhide HRd, by rw [upd_same, ints_snoc]; exact unhide hrow14, by rw [upd_other _ _ (by decide)]; exact unhide e40⟩
              clear hst14 hrow14 hnil14 HSa m1' m0 m1 c12 ctv HPm HRd
              have hbF1 : (upd HM 14 h14) 1 = some (sb, .cells s.arr 91 (0, 0)) := by rw [upd_other _ _ (by decide)]; exact unhide HF1'
              have c12 : wb.cell? ⟨sb, 12, none⟩ = some (.slice (some ⟨tb, 0, none⟩) K K) := by rw [← unhide Hst0]; exact (unhide HB).st.cell hbF1 rfl
              have m0 : wb.cell? ⟨mvb, 0, none⟩ = some (.int .i64 (t : Int)) := (unhide HB).st.cell (unhide HB).mv rfl
              have m1 : wb.cell? ⟨mvb, 1, none⟩ = some (.int .i64 (sym : Int)) := (unhide HB).st.cell (unhide HB).mv rfl
              obtain ⟨at2, ct2, ht1, ht2⟩ := (unhide HB).rows.cell hsKn
              rw [← unhide Hnt] at ht1 ht2
              have Ht1 := hide ht1
              have Ht2 := hide ht2
              have HbF1 := hide hbF1
              have ctv : wb.cell? ⟨tb, sym, none⟩ = some (.slice at2 0 ct2) := (unhide HB).st.cell (unhide HB).rows.1 ht1
              clear ht1 ht2 hbF1
              refine wp_region_K (fun w' => w'.cell? ⟨sb, 12, none⟩ = some (.slice (some ⟨tb, 0, none⟩) K K) ∧ w'.cell? ⟨mvb, 0, none⟩ = some (.int .i64 (t : Int)) ∧ w'.cell? ⟨mvb, 1, none⟩ = some (.int .i64 (sym : Int)) ∧ w'.cell? ⟨tb, sym, none⟩ = some (.slice at2 0 ct2)) 19 (by kernel_rfl) ?_
              have hS0 : wb.drew.cell? ⟨sb, 12, none⟩ = some (.slice (some ⟨tb, 0, none⟩) K K) ∧ wb.drew.cell? ⟨mvb, 0, none⟩ = some (.int .i64 (t : Int)) ∧ wb.drew.cell? ⟨mvb, 1, none⟩ = some (.int .i64 (sym : Int)) ∧ wb.drew.cell? ⟨tb, sym, none⟩ = some (.slice at2 0 ct2) := ⟨c12, m0, m1, ctv⟩
              refine wpAnyK_take (i := 0) (v := ?v0a) rfl (by kernel_rfl) (by kernel_rfl) (by kernel_rfl) (by kernel_rfl) (fun _ _ _ h => h) (Or.inl ⟨by rfl, ?hy0a⟩) hS0 ?rest0a
              case hy0a => (intro w hSw; go_simp; try with_reducible rfl)
              try simp only [Act.put, List.setIfInBounds_toArray, List.set_cons_zero, List.set_cons_succ]
              refine wpAnyK_take (i := 1) (v := ?v1a) rfl (by kernel_rfl) (by kernel_rfl) (by kernel_rfl) (by kernel_rfl) (fun _ _ _ h => h) (Or.inl ⟨by rfl, ?hy1a⟩) hS0 ?rest1a
              case hy1a => (intro w hSw; go_simp; try with_reducible rfl)
              try simp only [Act.put, List.setIfInBounds_toArray, List.set_cons_zero, List.set_cons_succ]
              refine wpAnyK_take (i := 2) (v := ?v2a) rfl (by kernel_rfl) (by kernel_rfl) (by kernel_rfl) (by kernel_rfl) (fun _ _ _ h => h) (Or.inl ⟨by rfl, ?hy2a⟩) hS0 ?rest2a
              case hy2a => (intro w hSw; go_simp; try with_reducible rfl)
              try simp only [Act.put, List.setIfInBounds_toArray, List.set_cons_zero, List.set_cons_succ]
              refine wpAnyK_take (i := 3) (v := ?v3a) rfl (by kernel_rfl) (by kernel_rfl) (by kernel_rfl) (by kernel_rfl) (fun _ _ _ h => h) (Or.inl ⟨by rfl, ?hy3a⟩) hS0 ?rest3a
              case hy3a => (intro w hSw; go_simp; try with_reducible rfl)
              try simp only [Act.put, List.setIfInBounds_toArray, List.set_cons_zero, List.set_cons_succ]
              refine wpAnyK_take (i := 4) (v := ?v4a) rfl (by kernel_rfl) (by kernel_rfl) (by kernel_rfl) (by kernel_rfl) (fun _ _ _ h => h) (Or.inl ⟨by rfl, ?hy4a⟩) hS0 ?rest4a
              case hy4a => (intro w hSw; go_simp; try with_reducible rfl)
              try simp only [Act.put, List.setIfInBounds_toArray, List.set_cons_zero, List.set_cons_succ]
              refine wpAnyK_take (i := 5) (v := ?v5a) rfl (by kernel_rfl) (by kernel_rfl) (by kernel_rfl) (by kernel_rfl) (fun _ _ _ h => h) (Or.inl ⟨by rfl, ?hy5a⟩) hS0 ?rest5a
              case hy5a => (intro w hSw; go_simp; try with_reducible rfl)
              try simp only [Act.put, List.setIfInBounds_toArray, List.set_cons_zero, List.set_cons_succ]
              refine wpAnyK_take (i := 6) (v := ?v6a) rfl (by kernel_rfl) (by kernel_rfl) (by kernel_rfl) (by kernel_rfl) (fun _ _ _ h => h) (Or.inl ⟨by rfl, ?hy6a⟩) hS0 ?rest6a
              case hy6a => (intro w hSw; go_simp; try with_reducible rfl)
              try simp only [Act.put, List.setIfInBounds_toArray, List.set_cons_zero, List.set_cons_succ]
              refine wpAnyK_take (i := 7) (v := ?v7a) rfl (by kernel_rfl) (by kernel_rfl) (by kernel_rfl) (by kernel_rfl) (fun _ _ _ h => h) (Or.inl ⟨by rfl, ?hy7a⟩) hS0 ?rest7a
              case hy7a => (intro w hSw; go_simp; try with_reducible rfl)
              try simp only [Act.put, List.setIfInBounds_toArray, List.set_cons_zero, List.set_cons_succ]
              refine wpAnyK_take (i := 8) (v := ?v8a) rfl (by kernel_rfl) (by kernel_rfl) (by kernel_rfl) (by kernel_rfl) (fun _ _ _ h => h) (Or.inl ⟨by rfl, ?hy8a⟩) hS0 ?rest8a
              case hy8a => (intro w hSw; go_simp; try with_reducible rfl)
              try simp only [Act.put, List.setIfInBounds_toArray, List.set_cons_zero, List.set_cons_succ]
              refine wpAnyK_take (i := 9) (v := ?v9a) rfl (by kernel_rfl) (by kernel_rfl) (by kernel_rfl) (by kernel_rfl) (fun _ _ _ h => h) (Or.inl ⟨by rfl, ?hy9a⟩) hS0 ?rest9a
              case hy9a => (intro w hSw; go_simp; try with_reducible rfl)
              try simp only [Act.put, List.setIfInBounds_toArray, List.set_cons_zero, List.set_cons_succ]
              refine wpAnyK_take (i := 10) (v := ?v10a) rfl (by kernel_rfl) (by kernel_rfl) (by kernel_rfl) (by kernel_rfl) (fun _ _ _ h => h) (Or.inl ⟨by rfl, ?hy10a⟩) hS0 ?rest10a
              case hy10a => (intro w hSw; go_simp; try with_reducible rfl)
              try simp only [Act.put, List.setIfInBounds_toArray, List.set_cons_zero, List.set_cons_succ]
              refine wpAnyK_take (i := 11) (v := ?v11a) rfl (by kernel_rfl) (by kernel_rfl) (by kernel_rfl) (by kernel_rfl) (fun _ _ _ h => h) (Or.inl ⟨by rfl, ?hy11a⟩) hS0 ?rest11a
              case hy11a => (intro w hSw; go_simp; try with_reducible rfl)
              try simp only [Act.put, List.setIfInBounds_toArray, List.set_cons_zero, List.set_cons_succ]
              refine wpAnyK_take (i := 12) (v := ?v12a) rfl (by kernel_rfl) (by kernel_rfl) (by kernel_rfl) (by kernel_rfl) (fun _ _ _ h => h) (Or.inl ⟨by rfl, ?hy12a⟩) hS0 ?rest12a
              case hy12a => (intro w hSw; go_simp; try with_reducible rfl)
              try simp only [Act.put, List.setIfInBounds_toArray, List.set_cons_zero, List.set_cons_succ]
              refine wpAnyK_take (i := 13) (v := ?v13a) rfl (by kernel_rfl) (by kernel_rfl) (by kernel_rfl) (by kernel_rfl) (fun _ _ _ h => h) (Or.inl ⟨by rfl, ?hy13a⟩) hS0 ?rest13a
              case hy13a => (intro w hSw; go_simp; try with_reducible rfl)
              try simp only [Act.put, List.setIfInBounds_toArray, List.set_cons_zero, List.set_cons_succ]
              refine wpAnyK_take (i := 14) (v := ?v14a) rfl (by kernel_rfl) (by kernel_rfl) (by kernel_rfl) (by kernel_rfl) (fun _ _ _ h => h) (Or.inl ⟨by rfl, ?hy14a⟩) hS0 ?rest14a
              case hy14a => (intro w hSw; go_simp; try with_reducible rfl)
              try simp only [Act.put, List.setIfInBounds_toArray, List.set_cons_zero, List.set_cons_succ]
              refine wpAnyK_take (i := 15) (v := ?v15a) rfl (by kernel_rfl) (by kernel_rfl) (by kernel_rfl) (by kernel_rfl) (fun _ _ _ h => h) (Or.inl ⟨by rfl, ?hy15a⟩) hS0 ?rest15a
              case hy15a => (intro w hSw; go_simp; try with_reducible rfl)
              try simp only [Act.put, List.setIfInBounds_toArray, List.set_cons_zero, List.set_cons_succ]
              clear hS0 c12 m0 m1 ctv
              refine wpAnyK_one (i := 16) (by kernel_rfl) rfl (fun K' hK => ?_)
              go_simp
              have hSA : ∀ o, St w0 (wb.drew.alloc o) (upd HM 14 h14) F := fun o => (unhide HB).st.drew.alloc o
              refine hK.out _ _ (fun _ => ⟨by rw [← unhide Hst0]; exact (hSA _).cell (unhide HbF1) rfl, (hSA _).cell (unhide HB).mv rfl, (hSA _).cell (unhide HB).mv rfl, (hSA _).cell (unhide HB).rows.1 (unhide Ht1)⟩) ?_
              clear hK K'
              refine wpAnyK_one (i := 17) (by kernel_rfl) rfl (fun K' hK => ?_)
              refine step_append_st (w0 := w0) (H := (upd HM 14 h14)) (F := F) _ rfl (.tmp 91) (.tmp 94) 89 rfl (11 + sym) (by omega) 3 i0 (.int .i64 0) 1 8 Yba.underlying89 hii hz0 hz1 hz2 rfl (by decide) (.slice at2 0 ct2) 0 (ints (Plain.tgt P sym)) rfl (hSA _) (unhide Ht2) ⟨wb.heap.size, 0, none⟩ 1 1 [.int .i64 (t : Int)] rfl rfl (cell_one_new _ _ _) (one_int _) (by unfold maxLen; omega) (by omega) ?_
              intro vy wy hy hsty hrowy hnily
              obtain ⟨ay, cy, hvy⟩ := (unhide hrowy).sl
              subst hvy
              have gF1 : (upd (upd HM 14 h14) (11 + sym) hy) 1 = some (sb, .cells s.arr 91 (0, 0)) := by rw [upd_other _ _ (by omega)]; exact unhide HbF1
              have g40 : (upd (upd HM 14 h14) (11 + sym) hy) 40 = some (mvb, .cells #[.int .i64 (t : Int), .int .i64 (sym : Int), .int .u8 0] 81 (0, 0)) := by rw [upd_other _ _ (by omega)]; exact (unhide HB).mv
              have g10 : (upd (upd HM 14 h14) (11 + sym) hy) 10 = some (tb, .cells tv 89 (0, 0)) := by rw [upd_other _ _ (by omega)]; exact (unhide HB).rows.1
              have cyt : wy.cell? ⟨tb, sym, none⟩ = some (.slice at2 0 ct2) := (unhide hsty).cell g10 (unhide Ht1)
              have zyt : wy.frozen? ⟨tb, sym, none⟩ = false := (unhide hsty).frozen g10 sym
              have hS1 : wy.cell? ⟨sb, 12, none⟩ = some (.slice (some ⟨tb, 0, none⟩) K K) ∧ wy.cell? ⟨mvb, 0, none⟩ = some (.int .i64 (t : Int)) ∧ wy.cell? ⟨mvb, 1, none⟩ = some (.int .i64 (sym : Int)) ∧ wy.cell? ⟨tb, sym, none⟩ = some (.slice at2 0 ct2) := ⟨by rw [← unhide Hst0]; exact (unhide hsty).cell gF1 rfl, (unhide hsty).cell g40 rfl, (unhide hsty).cell g40 rfl, cyt⟩
              refine hK.out _ _ (fun _ => hS1) ?_
              clear hK K' hSA
              try simp only [Act.put, List.setIfInBounds_toArray, List.set_cons_zero, List.set_cons_succ]
              refine wpAnyK_take (i := 18) (v := ?v18a) rfl (by kernel_rfl) (by kernel_rfl) (by kernel_rfl) (by kernel_rfl) (fun _ _ _ h => h) (Or.inl ⟨by rfl, ?hy18a⟩) hS1 ?rest18a
              case hy18a => (intro w hSw; go_simp; try with_reducible rfl)
              try simp only [Act.put, List.setIfInBounds_toArray, List.set_cons_zero, List.set_cons_succ]
              clear hS1
              refine wpAnyK_one (i := 19) (by kernel_rfl) rfl (fun K' hK => ?_)
              go_simp
              refine hK.out _ _ (fun h => absurd rfl h) ?_
              clear hK K' cyt zyt
              refine wpAnyK_done (by kernel_rfl) ?_ _
              have HSn := hide ((unhide hsty).set g10 sym (.slice ay (0 + 1) cy))
              have HPn : Hid (Ph1 K w0 (wy.setCell ⟨tb, sym, none⟩ (.slice ay (0 + 1) cy)) H F tb (P ++ [(t, sym + 1)]) (n + 1) (.slice ab (n + 1) cb) (upd (upd (upd HM 14 h14) (11 + sym) hy) 10 (some (tb, .cells (tv.setIfInBounds sym (.slice ay (0 + 1) cy)) 89 (0, 0)))) (tv.setIfInBounds sym (.slice ay (0 + 1) cy)) (rd ++ [sym])) := hide ⟨unhide HSn, fun r hr => by rw [upd_other _ _ (by omega), upd_other _ _ (by omega)]; exact (unhide HB).keep r hr, (unhide HB).rows.set hsKn (upd_same _ _ _) (by rw [upd_other _ _ (by omega), upd_same, Plain.tgt_snoc, if_pos rfl, ints_snoc, List.length_append, List.length_singleton, ← unhide Hnt]; exact unhide hrowy) (fun r h1 h2 h3 => by rw [upd_other _ _ (by omega), upd_other _ _ h3]) (fun x hx1 hx2 => by rw [Plain.tgt_snoc, if_neg (by omega)]), (unhide HB).read, by rw [upd_other _ _ (by decide), upd_other _ _ (by omega)]; exact (unhide HB).row⟩
              generalize wy.setCell ⟨tb, sym, none⟩ (.slice ay (0 + 1) cy) = wz at HPn HSn ⊢
              clear HSn hsty hrowy hnily gF1 g40 g10 HB
              go_wp2
              go_roundw
              case rel => exact ⟨jj + 1, n + 1, ab, cb, _, _, rd ++ [sym], by omega, by go_num, rfl, hide (by rw [unhide hsn, ← List.append_assoc, ← unhide HeP]; exact unhide HPn)⟩
              case measure => simp [intOf]; omega
            · have hnz : ¬ (nt : Int) = 0 := by omega
              have HRd : Hid (Plain.ReadIs (P ++ [(t, sym + 1)]) rd) := hide ((unhide HPm).read.old t (fun e => hz (by rw [unhide Hnt, e]; rfl)))
              go_quiet (fail)
              have HB : Hid (Ph2 K w0 (wa.drewN nq) H F tb P t sym n (.slice a n c) HM tv rd mvb) := hide ⟨(unhide HPm).st.drewN nq, (unhide HPm).keep, (unhide HPm).rows, unhide HRd, (unhide HPm).row, unhide e40⟩
              generalize wa.drewN nq = wb at HB ⊢
              clear m0 m1 c12 ctv HPm HRd
              go_upto_region 13 with fail
              have hbF1 : HM 1 = some (sb, .cells s.arr 91 (0, 0)) := unhide HF1'
              have c12 : wb.cell? ⟨sb, 12, none⟩ = some (.slice (some ⟨tb, 0, none⟩) K K) := by rw [← unhide Hst0]; exact (unhide HB).st.cell hbF1 rfl
              have m0 : wb.cell? ⟨mvb, 0, none⟩ = some (.int .i64 (t : Int)) := (unhide HB).st.cell (unhide HB).mv rfl
              have m1 : wb.cell? ⟨mvb, 1, none⟩ = some (.int .i64 (sym : Int)) := (unhide HB).st.cell (unhide HB).mv rfl
              obtain ⟨at2, ct2, ht1, ht2⟩ := (unhide HB).rows.cell hsKn
              rw [← unhide Hnt] at ht1 ht2
              have Ht1 := hide ht1
              have Ht2 := hide ht2
              have HbF1 := hide hbF1
              have ctv : wb.cell? ⟨tb, sym, none⟩ = some (.slice at2 nt ct2) := (unhide HB).st.cell (unhide HB).rows.1 ht1
              clear ht1 ht2 hbF1
              refine wp_region_K (fun w' => w'.cell? ⟨sb, 12, none⟩ = some (.slice (some ⟨tb, 0, none⟩) K K) ∧ w'.cell? ⟨mvb, 0, none⟩ = some (.int .i64 (t : Int)) ∧ w'.cell? ⟨mvb, 1, none⟩ = some (.int .i64 (sym : Int)) ∧ w'.cell? ⟨tb, sym, none⟩ = some (.slice at2 nt ct2)) 19 (by kernel_rfl) ?_
              have hS0 : wb.drew.cell? ⟨sb, 12, none⟩ = some (.slice (some ⟨tb, 0, none⟩) K K) ∧ wb.drew.cell? ⟨mvb, 0, none⟩ = some (.int .i64 (t : Int)) ∧ wb.drew.cell? ⟨mvb, 1, none⟩ = some (.int .i64 (sym : Int)) ∧ wb.drew.cell? ⟨tb, sym, none⟩ = some (.slice at2 nt ct2) := ⟨c12, m0, m1, ctv⟩
              refine wpAnyK_take (i := 0) (v := ?v0b) rfl (by kernel_rfl) (by kernel_rfl) (by kernel_rfl) (by kernel_rfl) (fun _ _ _ h => h) (Or.inl ⟨by rfl, ?hy0b⟩) hS0 ?rest0b
              case hy0b => (intro w hSw; go_simp; try with_reducible rfl)
              try simp only [Act.put, List.setIfInBounds_toArray, List.set_cons_zero, List.set_cons_succ]
              refine wpAnyK_take (i := 1) (v := ?v1b) rfl (by kernel_rfl) (by kernel_rfl) (by kernel_rfl) (by kernel_rfl) (fun _ _ _ h => h) (Or.inl ⟨by rfl, ?hy1b⟩) hS0 ?rest1b
              case hy1b => (intro w hSw; go_simp; try with_reducible rfl)
              try simp only [Act.put, List.setIfInBounds_toArray, List.set_cons_zero, List.set_cons_succ]
              refine wpAnyK_take (i := 2) (v := ?v2b) rfl (by kernel_rfl) (by kernel_rfl) (by kernel_rfl) (by kernel_rfl) (fun _ _ _ h => h) (Or.inl ⟨by rfl, ?hy2b⟩) hS0 ?rest2b
              case hy2b => (intro w hSw; go_simp; try with_reducible rfl)
              try simp only [Act.put, List.setIfInBounds_toArray, List.set_cons_zero, List.set_cons_succ]
              refine wpAnyK_take (i := 3) (v := ?v3b) rfl (by kernel_rfl) (by kernel_rfl) (by kernel_rfl) (by kernel_rfl) (fun _ _ _ h => h) (Or.inl ⟨by rfl, ?hy3b⟩) hS0 ?rest3b
              case hy3b => (intro w hSw; go_simp; try with_reducible rfl)
              try simp only [Act.put, List.setIfInBounds_toArray, List.set_cons_zero, List.set_cons_succ]
              refine wpAnyK_take (i := 4) (v := ?v4b) rfl (by kernel_rfl) (by kernel_rfl) (by kernel_rfl) (by kernel_rfl) (fun _ _ _ h => h) (Or.inl ⟨by rfl, ?hy4b⟩) hS0 ?rest4b
              case hy4b => (intro w hSw; go_simp; try with_reducible rfl)
              try simp only [Act.put, List.setIfInBounds_toArray, List.set_cons_zero, List.set_cons_succ]
              refine wpAnyK_take (i := 5) (v := ?v5b) rfl (by kernel_rfl) (by kernel_rfl) (by kernel_rfl) (by kernel_rfl) (fun _ _ _ h => h) (Or.inl ⟨by rfl, ?hy5b⟩) hS0 ?rest5b
              case hy5b => (intro w hSw; go_simp; try with_reducible rfl)
              try simp only [Act.put, List.setIfInBounds_toArray, List.set_cons_zero, List.set_cons_succ]
              refine wpAnyK_take (i := 6) (v := ?v6b) rfl (by kernel_rfl) (by kernel_rfl) (by kernel_rfl) (by kernel_rfl) (fun _ _ _ h => h) (Or.inl ⟨by rfl, ?hy6b⟩) hS0 ?rest6b
              case hy6b => (intro w hSw; go_simp; try with_reducible rfl)
              try simp only [Act.put, List.setIfInBounds_toArray, List.set_cons_zero, List.set_cons_succ]
              refine wpAnyK_take (i := 7) (v := ?v7b) rfl (by kernel_rfl) (by kernel_rfl) (by kernel_rfl) (by kernel_rfl) (fun _ _ _ h => h) (Or.inl ⟨by rfl, ?hy7b⟩) hS0 ?rest7b
              case hy7b => (intro w hSw; go_simp; try with_reducible rfl)
              try simp only [Act.put, List.setIfInBounds_toArray, List.set_cons_zero, List.set_cons_succ]
              refine wpAnyK_take (i := 8) (v := ?v8b) rfl (by kernel_rfl) (by kernel_rfl) (by kernel_rfl) (by kernel_rfl) (fun _ _ _ h => h) (Or.inl ⟨by rfl, ?hy8b⟩) hS0 ?rest8b
              case hy8b => (intro w hSw; go_simp; try with_reducible rfl)
              try simp only [Act.put, List.setIfInBounds_toArray, List.set_cons_zero, List.set_cons_succ]
              refine wpAnyK_take (i := 9) (v := ?v9b) rfl (by kernel_rfl) (by kernel_rfl) (by kernel_rfl) (by kernel_rfl) (fun _ _ _ h => h) (Or.inl ⟨by rfl, ?hy9b⟩) hS0 ?rest9b
              case hy9b => (intro w hSw; go_simp; try with_reducible rfl)
              try simp only [Act.put, List.setIfInBounds_toArray, List.set_cons_zero, List.set_cons_succ]
              refine wpAnyK_take (i := 10) (v := ?v10b) rfl (by kernel_rfl) (by kernel_rfl) (by kernel_rfl) (by kernel_rfl) (fun _ _ _ h => h) (Or.inl ⟨by rfl, ?hy10b⟩) hS0 ?rest10b
              case hy10b => (intro w hSw; go_simp; try with_reducible rfl)
              try simp only [Act.put, List.setIfInBounds_toArray, List.set_cons_zero, List.set_cons_succ]
              refine wpAnyK_take (i := 11) (v := ?v11b) rfl (by kernel_rfl) (by kernel_rfl) (by kernel_rfl) (by kernel_rfl) (fun _ _ _ h => h) (Or.inl ⟨by rfl, ?hy11b⟩) hS0 ?rest11b
              case hy11b => (intro w hSw; go_simp; try with_reducible rfl)
              try simp only [Act.put, List.setIfInBounds_toArray, List.set_cons_zero, List.set_cons_succ]
              refine wpAnyK_take (i := 12) (v := ?v12b) rfl (by kernel_rfl) (by kernel_rfl) (by kernel_rfl) (by kernel_rfl) (fun _ _ _ h => h) (Or.inl ⟨by rfl, ?hy12b⟩) hS0 ?rest12b
              case hy12b => (intro w hSw; go_simp; try with_reducible rfl)
              try simp only [Act.put, List.setIfInBounds_toArray, List.set_cons_zero, List.set_cons_succ]
              refine wpAnyK_take (i := 13) (v := ?v13b) rfl (by kernel_rfl) (by kernel_rfl) (by kernel_rfl) (by kernel_rfl) (fun _ _ _ h => h) (Or.inl ⟨by rfl, ?hy13b⟩) hS0 ?rest13b
              case hy13b => (intro w hSw; go_simp; try with_reducible rfl)
              try simp only [Act.put, List.setIfInBounds_toArray, List.set_cons_zero, List.set_cons_succ]
              refine wpAnyK_take (i := 14) (v := ?v14b) rfl (by kernel_rfl) (by kernel_rfl) (by kernel_rfl) (by kernel_rfl) (fun _ _ _ h => h) (Or.inl ⟨by rfl, ?hy14b⟩) hS0 ?rest14b
              case hy14b => (intro w hSw; go_simp; try with_reducible rfl)
              try simp only [Act.put, List.setIfInBounds_toArray, List.set_cons_zero, List.set_cons_succ]
              refine wpAnyK_take (i := 15) (v := ?v15b) rfl (by kernel_rfl) (by kernel_rfl) (by kernel_rfl) (by kernel_rfl) (fun _ _ _ h => h) (Or.inl ⟨by rfl, ?hy15b⟩) hS0 ?rest15b
              case hy15b => (intro w hSw; go_simp; try with_reducible rfl)
              try simp only [Act.put, List.setIfInBounds_toArray, List.set_cons_zero, List.set_cons_succ]
              clear hS0 c12 m0 m1 ctv
              refine wpAnyK_one (i := 16) (by kernel_rfl) rfl (fun K' hK => ?_)
              go_simp
              have hSA : ∀ o, St w0 (wb.drew.alloc o) HM F := fun o => (unhide HB).st.drew.alloc o
              refine hK.out _ _ (fun _ => ⟨by rw [← unhide Hst0]; exact (hSA _).cell (unhide HbF1) rfl, (hSA _).cell (unhide HB).mv rfl, (hSA _).cell (unhide HB).mv rfl, (hSA _).cell (unhide HB).rows.1 (unhide Ht1)⟩) ?_
              clear hK K'
              refine wpAnyK_one (i := 17) (by kernel_rfl) rfl (fun K' hK => ?_)
              refine step_append_st (w0 := w0) (H := HM) (F := F) _ rfl (.tmp 91) (.tmp 94) 89 rfl (11 + sym) (by omega) 3 i0 (.int .i64 0) 1 8 Yba.underlying89 hii hz0 hz1 hz2 rfl (by decide) (.slice at2 nt ct2) nt (ints (Plain.tgt P sym)) rfl (hSA _) (unhide Ht2) ⟨wb.heap.size, 0, none⟩ 1 1 [.int .i64 (t : Int)] rfl rfl (cell_one_new _ _ _) (one_int _) (by unfold maxLen; omega) (by omega) ?_
              intro vy wy hy hsty hrowy hnily
              obtain ⟨ay, cy, hvy⟩ := (unhide hrowy).sl
              subst hvy
              have gF1 : (upd HM (11 + sym) hy) 1 = some (sb, .cells s.arr 91 (0, 0)) := by rw [upd_other _ _ (by omega)]; exact unhide HbF1
              have g40 : (upd HM (11 + sym) hy) 40 = some (mvb, .cells #[.int .i64 (t : Int), .int .i64 (sym : Int), .int .u8 0] 81 (0, 0)) := by rw [upd_other _ _ (by omega)]; exact (unhide HB).mv
              have g10 : (upd HM (11 + sym) hy) 10 = some (tb, .cells tv 89 (0, 0)) := by rw [upd_other _ _ (by omega)]; exact (unhide HB).rows.1
              have cyt : wy.cell? ⟨tb, sym, none⟩ = some (.slice at2 nt ct2) := (unhide hsty).cell g10 (unhide Ht1)
              have zyt : wy.frozen? ⟨tb, sym, none⟩ = false := (unhide hsty).frozen g10 sym
              have hS1 : wy.cell? ⟨sb, 12, none⟩ = some (.slice (some ⟨tb, 0, none⟩) K K) ∧ wy.cell? ⟨mvb, 0, none⟩ = some (.int .i64 (t : Int)) ∧ wy.cell? ⟨mvb, 1, none⟩ = some (.int .i64 (sym : Int)) ∧ wy.cell? ⟨tb, sym, none⟩ = some (.slice at2 nt ct2) := ⟨by rw [← unhide Hst0]; exact (unhide hsty).cell gF1 rfl, (unhide hsty).cell g40 rfl, (unhide hsty).cell g40 rfl, cyt⟩
              refine hK.out _ _ (fun _ => hS1) ?_
              clear hK K' hSA
              try simp only [Act.put, List.setIfInBounds_toArray, List.set_cons_zero, List.set_cons_succ]
              refine wpAnyK_take (i := 18) (v := ?v18b) rfl (by kernel_rfl) (by kernel_rfl) (by kernel_rfl) (by kernel_rfl) (fun _ _ _ h => h) (Or.inl ⟨by rfl, ?hy18b⟩) hS1 ?rest18b
              case hy18b => (intro w hSw; go_simp; try with_reducible rfl)
              try simp only [Act.put, List.setIfInBounds_toArray, List.set_cons_zero, List.set_cons_succ]
              clear hS1
              refine wpAnyK_one (i := 19) (by kernel_rfl) rfl (fun K' hK => ?_)
              go_simp
              refine hK.out _ _ (fun h => absurd rfl h) ?_
              clear hK K' cyt zyt
              refine wpAnyK_done (by kernel_rfl) ?_ _
              have HSn := hide ((unhide hsty).set g10 sym (.slice ay (nt + 1) cy))
              have HPn : Hid (Ph1 K w0 (wy.setCell ⟨tb, sym, none⟩ (.slice ay (nt + 1) cy)) H F tb (P ++ [(t, sym + 1)]) (n) (.slice a (n) c) (upd (upd HM (11 + sym) hy) 10 (some (tb, .cells (tv.setIfInBounds sym (.slice ay (nt + 1) cy)) 89 (0, 0)))) (tv.setIfInBounds sym (.slice ay (nt + 1) cy)) (rd)) := hide ⟨unhide HSn, fun r hr => by rw [upd_other _ _ (by omega), upd_other _ _ (by omega)]; exact (unhide HB).keep r hr, (unhide HB).rows.set hsKn (upd_same _ _ _) (by rw [upd_other _ _ (by omega), upd_same, Plain.tgt_snoc, if_pos rfl, ints_snoc, List.length_append, List.length_singleton, ← unhide Hnt]; exact unhide hrowy) (fun r h1 h2 h3 => by rw [upd_other _ _ (by omega), upd_other _ _ h3]) (fun x hx1 hx2 => by rw [Plain.tgt_snoc, if_neg (by omega)]), (unhide HB).read, by rw [upd_other _ _ (by decide), upd_other _ _ (by omega)]; exact (unhide HB).row⟩
              generalize wy.setCell ⟨tb, sym, none⟩ (.slice ay (nt + 1) cy) = wz at HPn HSn ⊢
              clear HSn hsty hrowy hnily gF1 g40 g10 HB
              go_wp2
              go_roundw
              case rel => exact ⟨jj + 1, n, a, c, _, _, rd, by omega, by go_num, rfl, hide (by rw [unhide hsn, ← List.append_assoc, ← unhide HeP]; exact unhide HPn)⟩
              case measure => simp [intOf]; omega
        · have hjn : jj = (Plain.movesQ E q).length := by omega
          subst hjn
          rw [List.take_length, ← Plain.movesL_snoc, ← take_snoc (unhide Hq)] at HP
          clear hlt2 hjj
          go_wp2
          go_roundw
          case rel => exact ⟨j + 1, n, a, c, HR, tv, rd, by omega, by go_num, rfl, HP⟩
          case measure => simp [intOf]; omega
    · have hjn : j = (Plain.elems N m).length := by omega
      subst hjn
      rw [List.take_length] at HP
      clear hlt hj
      have HPl : Hid (∀ p ∈ Plain.movesL E (Plain.elems N m), p.2 ≤ K) := hide (fun p hp => by
        obtain ⟨q, _, h2⟩ := Plain.mem_movesL.1 (show (p.1, p.2) ∈ Plain.movesL E (Plain.elems N m) from hp)
        exact unhide hEs _ h2)
      have hrl : n = rd.length := by have := (unhide HP).row.1; simp [ints] at this; omega
      have hn3 : n ≤ K := by rw [hrl]; exact read_le (unhide HP).read (unhide HPl)
      have hrdK : Hid (∀ x ∈ rd, x < K) := hide (fun x hx => by
        obtain ⟨t, ht⟩ := List.exists_mem_of_ne_nil _ (((unhide HP).read.2 x).1 hx)
        have := unhide HPl _ (Plain.mem_tgt.1 ht)
        simp at this
        omega)
      have Hrl := hide hrl
      have hr14 : RowV (HR 14) 3 1 (.slice a n c) (castI rd).length ((castI rd).map (Value.int .i64)) := by
        rw [← ints_cast]; have h := (unhide HP).row; rw [hrl] at h ⊢; simpa [castI] using h
      have hcl3 : (castI rd).length ≤ 1000 := by simp [castI]; omega
      clear hrl
      go_wp2_with fail
      refine (sort_st (unhide HP).st 14 (by decide) (.slice a n c) (castI rd) hcl3 hr14).mono ?_
      rintro e w2 ⟨rfl, h14, hst2, hrow2⟩
      have hsy : Plain.elems K (Plain.maskOf rd) = Plain.syms N E m K := Plain.elems_maskOf_read (unhide hE) hm2 (unhide HP).read
      rw [sort_nodup rd (unhide hrdK) (unhide HP).read.1, hsy, ← ints_cast] at hrow2
      obtain ⟨rs, hrs⟩ : ∃ rs, rs = Plain.syms N E m K := ⟨_, rfl⟩
      rw [← hrs] at hrow2
      have hcl : (castI rd).length = n := by rw [unhide Hrl]; simp [castI]
      rw [hcl] at hrow2
      have hrsl : rs.length = n := by have := hrow2.1; simp [ints] at this; omega
      subst hrsl
      have Hrs := hide hrs
      have HS2 := hide hst2
      have HR2 := hide hrow2
      have HTr := hide (unhide HP).rows
      have Hkp := hide (unhide HP).keep
      clear hsy hrs hst2 hrow2 hr14 hrdK HPl HP hcl Hrl hcl3
      -- s.read = read
      have f1 : (upd HR 14 h14) 1 = some (sb, .cells s.arr 91 (0, 0)) := by rw [upd_other _ _ (by decide)]; exact unhide HF1
      have c13 : w2.cell? ⟨sb, 13, none⟩ = some s.read := (unhide HS2).cell f1 rfl
      have z13 : w2.frozen? ⟨sb, 13, none⟩ = false := (unhide HS2).frozen f1 13
      obtain ⟨s3, hs3⟩ : ∃ s3 : Sv, s3 = { s with read := .slice a rs.length c } := ⟨_, rfl⟩
      obtain ⟨H3, hH3⟩ : ∃ H3, H3 = upd (upd HR 14 h14) 1 (some (sb, .cells s3.arr 91 (0, 0))) := ⟨_, rfl⟩
      have HS3 : Hid (St w0 (w2.setCell ⟨sb, 13, none⟩ (.slice a rs.length c)) H3 F) := hide (by rw [hH3, hs3]; exact (unhide HS2).set f1 13 (.slice a rs.length c))
      have e31 : Hid (H3 1 = some (sb, .cells s3.arr 91 (0, 0))) := hide (by rw [hH3, upd_same])
      have e314 : Hid (RowV (H3 14) 3 1 (.slice a rs.length c) rs.length (ints rs)) := hide (by rw [hH3, upd_other _ _ (by decide), upd_same]; exact unhide HR2)
      have e3 : Hid (∀ r, r ≠ 1 → r < 10 ∨ (14 < r ∧ r ≠ 40) → H3 r = H r) := hide (fun r h1 hr => by rw [hH3, upd_other _ _ h1, upd_other _ _ (by omega)]; exact unhide Hkp r hr)
      have HT3 : Hid (TgRows K H3 tb tv (Plain.tgt (Plain.movesL E (Plain.elems N m)))) := hide ((unhide HTr).congr (fun r h1 h2 => by rw [hH3, upd_other _ _ (by omega), upd_other _ _ (by omega)]) (fun _ _ => rfl))
      have Hs3 := hide hs3
      clear hs3 hH3 HS2 f1 HTr Hkp HR2 HF1
      go_upto_region 18 with fail
      generalize w2.setCell ⟨sb, 13, none⟩ (.slice a rs.length c) = w3 at HS3 ⊢
      clear c13 z13
      obtain ⟨w4, hmk, h15, hst4, hrow4⟩ := make_st (unhide HS3) rs.length (by omega)
      have HP3 : Hid (Ph3 N K E w0 w4 H F sb nb s S M m i tb rs (.slice a rs.length c) 0 (.slice (some ⟨w3.heap.size, 0, none⟩) 0 rs.length) (upd H3 15 h15) F s3 M ms tv) := hide (by
        have hC' := unhide hC
        have hs3 := unhide Hs3
        have hU : ∀ r, r ≠ 1 → r < 10 → (upd H3 15 h15) r = H r := fun r h1 hr => by rw [upd_other _ _ (by omega)]; exact unhide e3 r h1 (Or.inl hr)
        refine ⟨?_, ?_, by rw [hs3]; exact unhide Hst0, ⟨by rw [hs3], by rw [upd_other _ _ (by decide)]; exact unhide e314⟩, by rw [upd_same]; exact hrow4, by simp, FLe.refl F, fun r hr h40 => by rw [upd_other _ _ (by omega)]; exact unhide e3 r (by omega) (Or.inr ⟨by omega, h40⟩), by omega, unhide hms, by rw [hs3]; exact ⟨rfl, rfl⟩⟩
        · show Cls N E w0 w4 (upd H3 15 h15) F sb nb s3 S M ms
          refine ⟨hst4, by rw [upd_other _ _ (by decide)]; exact unhide e31, by rw [hs3]; exact hC'.nptr, hC'.nfa, ?_, ?_, ?_, ?_, ?_, ?_, ?_, by rw [hs3]; exact hC'.marks, ?_⟩
          · rw [hU 2 (by decide) (by decide), hs3]; exact hC'.start
          · rw [hU 3 (by decide) (by decide), hs3]; exact hC'.stack
          · rw [hU 4 (by decide) (by decide), hs3]; exact hC'.reached
          · rw [hU 5 (by decide) (by decide), hs3]; exact hC'.key
          · rw [hU 6 (by decide) (by decide), hs3]; exact hC'.sets
          · rw [hU 7 (by decide) (by decide), hs3]; exact hC'.moves
          · rw [hU 8 (by decide) (by decide), hs3]; exact hC'.mark
          · rw [hU 9 (by decide) (by decide), hs3]; exact hC'.index
        · exact (unhide HT3).congr (fun r h1 h2 => upd_other _ _ (by omega)) (fun x _ => by simp))
      generalize w3.heap.size = rb at hmk HP3 ⊢
      clear hst4 hrow4 HS3 e31 e314 e3 HT3
      go_upto_region 19 with fail
      clear hmk
      go_wp2
      have hrsK : Hid (∀ x ∈ rs, x < K ∧ Plain.stepC N E m x ≠ 0) := hide (fun x hx => Plain.mem_syms.1 (by rw [← unhide Hrs]; exact hx))
      have hrsd : Hid (rs.Nodup) := hide (by rw [unhide Hrs]; exact (List.nodup_range).sublist List.filter_sublist)
      go_loopw [10, 110] (fun v10 v110 wr => ∃ (j : Nat) (a10 : Option Addr) (d10 : Nat) (H' : Nat → Option (Nat × Obj)) (F' : Nat → Option (Array Value × TypeId)) (s' : Sv) (M' : Int) (ms' : List Value) (tv : Array Value), j ≤ rs.length ∧ v110 = .int .i64 j ∧ v10 = .slice a10 j d10 ∧
        Hid (Ph3 N K E w0 wr H F sb nb s S M m i tb rs (.slice a rs.length c) j (.slice a10 j d10) H' F' s' M' ms' tv)) (fun _ v110 _ => rs.length - (intOf v110).toNat)
      case atStart => exact ⟨0, _, _, _, F, s3, M, ms, tv, Nat.zero_le _, rfl, rfl, HP3⟩
      case round =>
        clear HP3
        obtain ⟨j, a10, d10, H', F', s', M', ms', tv', hj, rfl, rfl, HP⟩ := hrel
        by_cases hlt : j < rs.length
        · obtain ⟨ba, hba⟩ := (unhide HP).read.2.head (by omega)
          subst hba
          obtain ⟨sym, hsym⟩ : ∃ sym, rs[j]? = some sym := ⟨_, List.getElem?_eq_getElem hlt⟩
          obtain ⟨hsK, hs0⟩ := unhide hrsK sym (List.mem_of_getElem? hsym)
          have hnot : sym ∉ rs.take j := by
            have hd := unhide hrsd
            rw [← List.take_append_drop j rs] at hd
            have hdr : sym ∈ rs.drop j := List.mem_of_getElem? (i := 0) (by rw [List.getElem?_drop]; simpa using hsym)
            exact fun h => (List.nodup_append.1 hd).2.2 sym h sym hdr rfl
          have htk : Hid (rs.take (j + 1) = rs.take j ++ [sym]) := hide (take_snoc hsym)
          have csy : wr.cell? ⟨ba, j, none⟩ = some (.int .i64 (sym : Int)) := (unhide HP).read.2.cell (unhide HP).cls.st (by rw [ints, List.getElem?_map, hsym]; rfl)
          obtain ⟨at1, ct, ht1, ht2⟩ := (unhide HP).rows.cell hsK
          rw [if_neg hnot] at ht1 ht2
          have c12 : wr.cell? ⟨sb, 12, none⟩ = some (.slice (some ⟨tb, 0, none⟩) K K) := by rw [← (unhide HP).tgs]; exact (unhide HP).cls.st.cell (unhide HP).cls.fields rfl
          have ctv : wr.cell? ⟨tb, sym, none⟩ = some (.slice at1 (Plain.tgt (Plain.movesL E (Plain.elems N m)) sym).length ct) := (unhide HP).cls.st.cell (unhide HP).rows.1 ht1
          obtain ⟨fl, hfl⟩ : ∃ fl, fl = Plain.tgt (Plain.movesL E (Plain.elems N m)) sym := ⟨_, rfl⟩
          rw [← hfl] at ht1 ht2 ctv
          have hfl0 : fl ≠ [] := by rw [hfl]; exact fun h => hs0 ((Plain.tgt_empty (unhide hE) hm2 sym).1 h)
          have hfll : fl.length ≤ 256 := by
            have h1 := Plain.movesL_len _ (Plain.elems_nodup N m) E
            have h2 := Plain.tgt_len (Plain.movesL E (Plain.elems N m)) sym
            rw [hfl]; omega
          have hflN : Hid (∀ q ∈ fl, q < N) := hide (fun q hq => Plain.tgt_lt (unhide hE) (m := m) (sym := sym) (by rw [hfl] at hq; exact hq))
          have hcs : Hid (Plain.closeM N E (Plain.maskOf fl) = Plain.stepC N E m sym) := hide (by rw [hfl]; exact congrArg (Plain.closeM N E) (Plain.maskOf_tgt hm2 sym))
          have hfp : 0 < fl.length := List.length_pos_iff.2 hfl0
          obtain ⟨fb, hfb⟩ := ht2.head hfp
          subst hfb
          have hfc : Hid (∀ k, k < fl.length → wr.cell? ⟨fb, k, none⟩ = some (.int .i64 (fl.getD k 0 : Nat))) := hide (fun k hk => ht2.cell (unhide HP).cls.st (getInt _ k hk))
          have Ht1 := hide ht1
          have Ht2 := hide ht2
          have Hfl := hide hfl
          have hsKi : (sym : Int) < (K : Int) := by omega
          have HCl := hide (unhide HP).cls
          have hMl : M' ≤ 100000 := by have := (unhide HP).mle; omega
          have Hnot := hide hnot
          clear ht1 ht2 hfl hsym hfl0 hnot
          go_wp2_with fail
          refine (closure_any HCl hN0 hN fl hflN hfll fb ct hfc hMl hE (hide (fun q => Nat.le_trans (Plain.movesQ_len E q) hEl))).mono ?_
          rintro e w5 ⟨rfl, H5, F5, s5, M5, hcls5, hfle5, hkeep5, hm5, hsy5, hli5, htg5, hrd5⟩
          rw [unhide hcs] at hcls5
          have hil : ((Plain.rowOf N E S m (rs.take j)).1.idxOf (Plain.closeM N E (Plain.maskOf fl))) = (Plain.rowOf N E S m (rs.take j)).1.idxOf (Plain.stepC N E m sym) := by rw [unhide hcs]
          obtain ⟨ix, hix⟩ : ∃ ix, ix = (Plain.rowOf N E S m (rs.take j)).1.idxOf (Plain.stepC N E m sym) := ⟨_, rfl⟩
          rw [hil, ← hix]
          have Hix := hide hix
          have Hcls := hide hcls5
          have Hf5 := hide hfle5
          have Hk5 := hide hkeep5
          have Hm5 := hide hm5
          have Hpass := hide (And.intro hsy5 (And.intro hli5 (And.intro htg5 hrd5)))
          clear hix hil hcls5 hfle5 hkeep5 hm5 hsy5 hli5 htg5 hrd5 HCl hfc csy c12 ctv
          obtain ⟨iM, miI, miZ, miS, miB⟩ := info_parts info81
          have Hr15 : Hid (RowV (H5 15) 81 3 (.slice a10 j d10) j (rwCells (Plain.rowOf N E S m (rs.take j)).2)) := hide (by rw [unhide Hk5 15 (by decide)]; exact (unhide HP).row)
          go_upto_region 23 with (at_builtin; refine wpList_append_st (w0 := w0) (H := H5) (F := F5) _ rfl (.tmp 114) (.tmp 126) 78 rfl 15 (by decide) 81 iM (.agg #[.int .i64 0, .int .i64 0, .int .u8 0]) 3 24 Yba.underlying78 miI miZ miS miB rfl (by decide) (.slice a10 j d10) j (rwCells (Plain.rowOf N E S m (rs.take j)).2) rfl ((unhide Hcls).st.alloc _) (unhide Hr15) ⟨w5.heap.size, 0, none⟩ 1 1 [.int .i64 (ix : Int), .int .i64 (sym : Int), .int .u8 0] rfl rfl (cell_three_new _ _ _ _ _) (three_one _ _) (by unfold maxLen; omega) (by omega) ?_; intro v6 w6 h6 hst6 hrow6 hnil6; obtain ⟨a6', d6', hv6⟩ := (unhide hrow6).sl; subst hv6)
          -- s.targets[sym] = s.targets[sym][:0]
          have hp := unhide Hpass
          have g1 : (upd H5 15 h6) 1 = some (sb, .cells s5.arr 91 (0, 0)) := by rw [upd_other _ _ (by decide)]; exact (unhide Hcls).fields
          have g10 : (upd H5 15 h6) 10 = some (tb, .cells tv' 89 (0, 0)) := by rw [upd_other _ _ (by decide), unhide Hk5 10 (by decide)]; exact (unhide HP).rows.1
          have c12 : w6.cell? ⟨sb, 12, none⟩ = some (.slice (some ⟨tb, 0, none⟩) K K) := by rw [← (unhide HP).tgs, ← hp.2.2.1]; exact (unhide hst6).cell g1 rfl
          have ctv : w6.cell? ⟨tb, sym, none⟩ = some (.slice (some ⟨fb, 0, none⟩) fl.length ct) := (unhide hst6).cell g10 (unhide Ht1)
          have ztv : w6.frozen? ⟨tb, sym, none⟩ = false := (unhide hst6).frozen g10 sym
          have HS7 := hide ((unhide hst6).set g10 sym (.slice (some ⟨fb, 0, none⟩) 0 ct))
          have hcap := (unhide Ht2).cap
          clear hp g1
          have G10 := hide g10
          clear g10
          go_region
          have HS8 := hide (unhide HS7).drew
          generalize (w6.setCell ⟨tb, sym, none⟩ (.slice (some ⟨fb, 0, none⟩) 0 ct)).drew = w8 at HS8 ⊢
          clear HS7 c12 ctv ztv hst6
          have hrow := Plain.rowOf_step (N := N) (E := E) (ord := S) (m := m) (l := rs.take j) (sym := sym) hs0
          rw [← unhide htk, ← unhide Hix] at hrow
          have HPn : Hid (Ph3 N K E w0 w8 H F sb nb s S M m i tb rs (.slice (some ⟨ba, 0, none⟩) rs.length c) (j + 1) (.slice a6' (j + 1) d6') (upd (upd H5 15 h6) 10 (some (tb, .cells (tv'.setIfInBounds sym (.slice (some ⟨fb, 0, none⟩) 0 ct)) 89 (0, 0)))) F5 s5 M5 (if Plain.stepC N E m sym ∈ (Plain.rowOf N E S m (rs.take j)).1 then ms' else ms' ++ [.slice none 0 0]) (tv'.setIfInBounds sym (.slice (some ⟨fb, 0, none⟩) 0 ct))) := hide (by
            have hp := unhide Hpass
            have hk := unhide Hk5
            refine ⟨?_, ?_, by rw [hp.2.2.1]; exact (unhide HP).tgs, ⟨by rw [hp.2.2.2]; exact (unhide HP).read.1, by rw [upd_other _ _ (by decide), upd_other _ _ (by decide), hk 14 (by decide)]; exact (unhide HP).read.2⟩, ?_, ?_, FLe.trans (unhide HP).fle (unhide Hf5), fun r hr h40 => by rw [upd_other _ _ (by omega), upd_other _ _ (by omega), hk r (by omega)]; exact (unhide HP).keep r hr h40, by have := (unhide HP).mle; have := unhide Hm5; omega, ?_, ⟨hp.1.trans (unhide HP).pass.1, hp.2.1.trans (unhide HP).pass.2⟩⟩
            · rw [hrow]
              exact (unhide Hcls).move (unhide HS8) (fun r hr => by rw [upd_other _ _ (by omega), upd_other _ _ (by omega)])
            · refine (unhide HP).rows.set hsK (upd_same _ _ _) ?_ (fun r h1 h2 h3 => by rw [upd_other _ _ (by omega), upd_other _ _ (by omega)]; exact hk r (by omega)) (fun x hx1 hx2 => by rw [unhide htk]; simp [hx2])
              rw [unhide htk, if_pos (by simp), upd_other _ _ (by omega), upd_other _ _ (by omega), hk (11 + sym) (by omega)]
              exact (unhide Ht2).cut
            · rw [upd_other _ _ (by decide), upd_same, hrow, rwCells_snoc]; exact unhide hrow6
            · exact fun e => (unhide HP).nn ((unhide hnil6).1 e).1
            · rw [hrow]
              have hml : ms'.length = (Plain.rowOf N E S m (rs.take j)).1.length := by have := (unhide HP).cls.moves.1; omega
              intro x hx1 hx2
              by_cases hc : Plain.stepC N E m sym ∈ (Plain.rowOf N E S m (rs.take j)).1
              · simp only [if_pos hc] at hx2 ⊢
                exact (unhide HP).nils x hx1 hx2
              · simp only [if_neg hc] at hx2 ⊢
                rw [List.length_append, List.length_singleton] at hx2
                by_cases hxl : x < ms'.length
                · rw [List.getElem?_append_left hxl]
                  exact (unhide HP).nils x hx1 (by omega)
                · have : x = ms'.length := by omega
                  subst this
                  simp)
          clear hrow
          go_wp2
          go_roundw
          case rel => exact ⟨j + 1, a6', d6', _, F5, s5, M5, _, _, by omega, by go_num, rfl, HPn⟩
          case measure => simp [intOf]; omega
        · have hjn : j = rs.length := by omega
          subst hjn
          have hrt : Plain.rowOf N E S m (rs.take rs.length) = Plain.rowTo N E S m K := by rw [List.take_length, unhide Hrs]; exact Plain.rowOf_syms N E S m K
          have hP := unhide HP
          have hpre : S.length ≤ (Plain.rowTo N E S m K).1.length := (Plain.rowTo_prefix N E S m K).length_le
          have hgood : Plain.Good N (Plain.rowTo N E S m K).1 := by rw [← hrt]; obtain ⟨_, _, _, _, _, hk, _⟩ := hP.cls.index; exact hk.good
          have hS'l := Good.le256 hgood hN
          have hmvs := hP.cls.moves
          rw [hrt] at hmvs
          obtain ⟨a7, d7, hv7⟩ := hmvs.sl
          rw [hv7] at hmvs
          obtain ⟨b7, hb7⟩ := hmvs.head (by omega)
          subst hb7
          have c5' : wr.cell? ⟨sb, 5, none⟩ = some (.slice (some ⟨b7, 0, none⟩) (Plain.rowTo N E S m K).1.length d7) := by rw [← hv7]; exact hP.cls.st.cell hP.cls.fields rfl
          have cmi : wr.cell? ⟨b7, i, none⟩ = some (.slice none 0 0) := hmvs.cell hP.cls.st (hP.nils i (Nat.le_refl _) (by rw [hrt]; omega))
          obtain ⟨cur, hcur, hset⟩ := hmvs.stored i (.slice a10 rs.length d10)
          have zmi : wr.frozen? ⟨b7, i, none⟩ = false := hP.cls.st.frozen hcur i
          have HS9 := hide (hP.cls.st.set hcur i (.slice a10 rs.length d10))
          have hin : (i : Int) < ((Plain.rowTo N E S m K).1.length : Int) := by omega
          have Hset := hide hset
          have Hrt := hide hrt
          have Hv7 := hide hv7
          clear hP hmvs hset hcur hrt hv7 hpre hgood hlt hj
          go_wp2
          go_ret
          have hP := unhide HP
          have hrt := unhide Hrt
          have h15 : RowV ((upd H' 7 (some (b7, .cells (cur.setIfInBounds i (.slice a10 rs.length d10)) 78 (0, 0)))) 15) 81 3 (.slice a10 rs.length d10) rs.length (rwCells (Plain.rowOf N E S m (rs.take rs.length)).2) := by rw [upd_other _ _ (by decide)]; exact hP.row
          obtain ⟨F9, hst9, hfle9, hro9⟩ := h15.freeze (unhide HS9) hP.nn
          have hl2 : (Plain.rowTo N E S m K).2.length = rs.length := by
            rw [← hrt]
            have := hP.row.1
            rw [rwCells_len] at this
            omega
          rw [hrt] at hro9
          refine ⟨.slice a10 rs.length d10, upd (upd H' 7 (some (b7, .cells (cur.setIfInBounds i (.slice a10 rs.length d10)) 78 (0, 0)))) 15 none, F9, s', M', ms'.set i (.slice a10 rs.length d10), rfl, ?_, ⟨⟨tb, tv', hP.tgs, ?_⟩, _, _, by rw [hP.read.1, upd_other _ _ (by decide), upd_other _ _ (by decide)]; exact hP.read.2⟩, by rw [hl2]; exact hro9, FLe.trans hP.fle hfle9, fun r hr h40 => by rw [upd_other _ _ (by omega), upd_other _ _ (by omega)]; exact hP.keep r hr h40, by have := hP.mle; omega, ?_, hP.pass⟩
          · have hc := hP.cls
            rw [hrt] at hc
            have hU : ∀ r, r < 10 → r ≠ 7 → (upd (upd H' 7 (some (b7, .cells (cur.setIfInBounds i (.slice a10 rs.length d10)) 78 (0, 0)))) 15 none) r = H' r := fun r hr h7 => by rw [upd_other _ _ (by omega), upd_other _ _ h7]
            refine ⟨hst9, ?_, hc.nptr, hc.nfa.mono hfle9, ?_, ?_, ?_, ?_, ?_, ?_, ?_, hc.marks, ?_⟩
            · rw [hU 1 (by decide) (by decide)]; exact hc.fields
            · rw [hU 2 (by decide) (by decide)]; exact hc.start
            · rw [hU 3 (by decide) (by decide)]; exact hc.stack
            · rw [hU 4 (by decide) (by decide)]; exact hc.reached
            · rw [hU 5 (by decide) (by decide)]; exact hc.key
            · rw [hU 6 (by decide) (by decide)]
              obtain ⟨vs, h1, h2⟩ := hc.sets
              exact ⟨vs, h1, h2.mono hfle9⟩
            · rw [upd_other _ _ (by decide), upd_same, unhide Hv7]; exact unhide Hset
            · rw [hU 8 (by decide) (by decide)]; exact hc.mark
            · rw [hU 9 (by decide) (by decide)]; exact hc.index
          · refine hP.rows.congr (fun r h1 h2 => by rw [upd_other _ _ (by omega), upd_other _ _ (by omega)]) (fun x hx => ?_)
            rw [List.take_length]
            by_cases hxr : x ∈ rs
            · rw [if_pos hxr]
            · rw [if_neg hxr]
              symm
              refine (Plain.tgt_empty (unhide hE) hm2 x).2 ?_
              rw [unhide Hrs, Plain.mem_syms] at hxr
              exact Classical.not_not.1 (fun h => hxr ⟨hx, h⟩)
          · intro x hx1 hx2
            rw [List.getElem?_set_ne (by omega)]
            exact hP.nils x (by omega) (by rw [hrt]; exact hx2)
end Go.Proofs.Ybulkie
