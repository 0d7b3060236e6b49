/-
  THE LAW (function 4), walked whole.
-/
import Derived.Test.YbulkieParts
import Derived.Test.YbulkieDfa
import Derived.Test.YbulkieNew
import Derived.Test.YbulkieModel
namespace Go.Proofs.Ybulkie
open Go.RowKit Go.Maps

theorem EdgesAt.below {w w' : World} {b off n : Nat} {es : List (Nat × Nat × Nat)} (h : EdgesAt w b off n es) (hb : Below w.heap.size w w') (hbw : 0 < n → b < w.heap.size) : EdgesAt w' b off n es := by
  refine ⟨h.1, fun j hj => ?_⟩
  obtain ⟨e, h1, h2, h3, h4, h5⟩ := h.2 j hj
  have hbw' := hbw (by omega)
  exact ⟨e, h1, (hb.cell (by exact hbw')).trans h2, (hb.cell (by exact hbw')).trans h3, (hb.cell (by exact hbw')).trans h4, h5⟩

theorem St.first (w : World) : St w w (fun _ => none) (fun _ => none) :=
  ⟨Below.refl _ _, fun _ => 0, ⟨fun _ _ _ h => absurd h (by simp), fun _ _ _ h => absurd h (by simp)⟩⟩

def LawPost (w : World) (e : Ending) (w' : World) : Prop := e = .returned (.bool true) ∧ Below w.heap.size w w'

def nameCells : Array Value := #[.string { data := #[97] }, .string { data := #[98] }, .string { data := #[99] }]

theorem Plain.bfs_row_len (N K : Nat) (E : List (Nat × Nat × Nat)) (c0 : Nat) : ∀ (i j : Nat) (row : List (Nat × Nat)), (Plain.bfs N K E c0 i).2[j]? = some row → row.length ≤ K
  | 0, j, row, h => by cases h
  | i + 1, j, row, h => by
    change ((Plain.bfs N K E c0 i).2 ++ [_])[j]? = some row at h
    rcases List.mem_append.1 (List.mem_of_getElem? h) with h1 | h1
    · obtain ⟨x, hx, he⟩ := List.mem_iff_getElem.1 h1
      exact Plain.bfs_row_len N K E c0 i x row (by rw [List.getElem?_eq_getElem hx, he])
    · rw [List.mem_singleton] at h1
      rw [h1]
      exact Plain.rowTo_row_len N E _ _ K

def nameList : List ByteArray := [{ data := #[97] }, { data := #[98] }, { data := #[99] }]
theorem name_get (j : Nat) (hj : j < nameList.length) : nameCells[0 + j]? = some (.string (nameList.getD j ByteArray.empty)) := by
  match j, hj with
  | 0, _ => rfl
  | 1, _ => rfl
  | 2, _ => rfl

/-- THE STATE WHILE THE EDGES ARE LAID. -/
structure Lay1 (N : Nat) (w wr : World) (F : Nat → Option (Array Value × TypeId)) (mb : Nat) (P : List (Nat × Nat × Nat)) (H : Nat → Option (Nat × Obj)) (rows : Array Value) : Prop where
  st : St w wr H F
  rows : MvRows N H mb rows P
  keep : ∀ r, r < 40 → H r = none


set_option maxRecDepth 100000 in
set_option maxHeartbeats 8000000 in
theorem law_some (n k nd li : Nat) (a2 a3 : Option Addr) (ne ce b2 o2 ns cs b3 o3 : Nat) (es : List (Nat × Nat × Nat)) (ss : List Nat) (w : World) (hn : n < 256) (hk : k < 256) (hnd : nd < 256) (hli : li < 256) (hne : ne ≤ 256) (hns : ns ≤ 256)
    (ha2 : Hid (0 < ne → a2 = some ⟨b2, o2, none⟩)) (hb2 : Hid (0 < ne → b2 < w.heap.size)) (he : Hid (EdgesAt w b2 o2 ne es))
    (ha3 : Hid (0 < ns → a3 = some ⟨b3, o3, none⟩)) (hb3 : Hid (0 < ns → b3 < w.heap.size)) (hs : Hid (ss.length = ns ∧ ∀ j, j < ns → ∃ q, ss[j]? = some q ∧ q < 256 ∧ w.cell? ⟨b3, o3 + j, none⟩ = some (.int .u8 (q : Int)))) :
    Calls Yba.prog 4 #[.int .u8 n, .int .u8 k, .slice a2 ne ce, .slice a3 ns cs, .int .u8 nd, .int .u8 li] w (LawPost w) := by
  obtain ⟨iM, miI, miZ, miS, miB⟩ := info_parts info81
  obtain ⟨iS, siI, siZ, siS, siB⟩ := info_parts info78
  obtain ⟨iU, uiI, uiZ, uiS, uiB⟩ := info_parts info92
  obtain ⟨N, hN⟩ : ∃ N, N = n % 8 + 1 := ⟨_, rfl⟩
  obtain ⟨K, hK⟩ : ∃ K, K = k % 3 + 1 := ⟨_, rfl⟩
  have eN : (n : Int) % 8 + 1 = (N : Int) := by omega
  have eK : (k : Int) % 3 + 1 = (K : Int) := by omega
  have hN0 : 0 < N := by omega
  have hN8 : N ≤ 8 := by omega
  have hK0 : 0 < K := by omega
  have hK3 : K ≤ 3 := by omega
  clear hN hK
  go_enter Yba.func4, Yba.ntmps4
  have hmk := run_make_row' (P := Yba.prog) 75 78 (.slice none 0 0) 24 Yba.underlying75 info78 rfl .i64 .i64 N (by omega) (by omega)
  have hK3i : (K : Int) ≤ 3 := by omega
  go_upto_region 7 with fail
  clear hmk hK3i eN eK
  obtain ⟨F1, hF1⟩ : ∃ F1 : Nat → Option (Array Value × TypeId), F1 = upd (fun _ => none) w.heap.size (some (nameCells, 9)) := ⟨_, rfl⟩
  have HS1 : Hid (St w (w.alloc (.cells nameCells 9 (0, 0))) (fun _ => none) F1) := hide (by
    rw [hF1]
    exact ((St.first w).freezeNew ((Below.refl _ _).alloc (Nat.le_refl _) _) (by show (w.heap.push _)[w.heap.size]? = _; simp) (Nat.le_refl _)).1)
  have hFn : Hid (F1 w.heap.size = some (nameCells, 9)) := hide (by rw [hF1, upd_same])
  obtain ⟨E, hE⟩ : ∃ E, E = es.map (nrm N K) := ⟨_, rfl⟩
  have hEl : Hid (E.length = ne) := hide (by rw [hE, List.length_map]; exact (unhide he).1)
  have HP0 : Hid (∃ H rows, Lay1 N w ((w.alloc (.cells nameCells 9 (0, 0))).alloc (.cells (madeCells #[.slice none 0 0] N) 78 (0, 0))) F1 (w.heap.size + 1) (E.take 0) H rows) := hide (by
    have h1 := (unhide HS1).newAlloc (r := 41) (by decide) (.cells (madeCells #[.slice none 0 0] N) 78 (0, 0))
    rw [size_alloc'] at h1
    refine ⟨_, madeCells #[.slice none 0 0] N, h1, ⟨upd_same _ _ _, by simp [madeCells], fun q hq => ⟨.slice none 0 0, by simp [madeCells, hq, Nat.mod_one], ?_⟩⟩, fun r hr => upd_other _ _ (by omega)⟩
    rw [upd_other _ _ (by omega)]
    exact RowV.nil _ _)
  have HE := hide hE
  change Code.wp _ _ _ _ ((w.alloc (.cells nameCells 9 (0, 0))).alloc (.cells (madeCells #[.slice none 0 0] N) 78 (0, 0)))
  generalize (w.alloc (.cells nameCells 9 (0, 0))).alloc (.cells (madeCells #[.slice none 0 0] N) 78 (0, 0)) = wa at HP0 ⊢
  generalize w.heap.size + 1 = mb at HP0 ⊢
  generalize w.heap.size = nmk at hFn ⊢
  clear HS1 hF1 hE
  go_wp2
  go_loopw [67] (fun v67 wr => ∃ (j : Nat), j ≤ ne ∧ v67 = .int .i64 j ∧ Hid (∃ H rows, Lay1 N w wr F1 mb (E.take j) H rows)) (fun v67 _ => ne - (intOf v67).toNat)
  case atStart => exact ⟨0, Nat.zero_le _, rfl, HP0⟩
  case round =>
    clear HP0
    obtain ⟨j, hj, rfl, HP⟩ := hrel
    by_cases hlt : j < ne
    · skip
      obtain ⟨HR, rows, HL⟩ := unhide HP
      obtain ⟨e, he1, hc1, hc2, hc3, b1, b2', b3'⟩ := (unhide he).2 j hlt
      have hbw := unhide hb2 (by omega)
      have haa := unhide ha2 (by omega)
      subst haa
      have d1 := (HL.st.below.cell (p := ⟨b2, o2 + j * 3, none⟩) hbw).trans hc1
      have d2 := (HL.st.below.cell (p := ⟨b2, o2 + j * 3 + 1, none⟩) hbw).trans hc2
      have d3 := (HL.st.below.cell (p := ⟨b2, o2 + j * 3 + 2, none⟩) hbw).trans hc3
      obtain ⟨f, hf, hf1, Hf⟩ : ∃ f : Nat, (e.1 : Int) % (N : Int) = (f : Int) ∧ f < N ∧ Hid (e.1 % N = f) := ⟨e.1 % N, mod_nat _ _, Nat.mod_lt _ hN0, hide rfl⟩
      obtain ⟨t, ht, hf2, Ht⟩ : ∃ f : Nat, (e.2.1 : Int) % (N : Int) = (f : Int) ∧ f < 8 ∧ Hid (e.2.1 % N = f) := ⟨e.2.1 % N, mod_nat _ _, by have := Nat.mod_lt e.2.1 hN0; omega, hide rfl⟩
      obtain ⟨sy, hsy0, hsy1, Hs⟩ : ∃ f : Nat, (e.2.2 : Int) % ((K : Int) + 1) = (f : Int) ∧ f ≤ K ∧ Hid (e.2.2 % (K + 1) = f) := ⟨e.2.2 % (K + 1), mod_nat1 _ _, by have := Nat.mod_lt e.2.2 (show 0 < K + 1 by omega); omega, hide rfl⟩
      have hsn : Hid (E.take (j + 1) = E.take j ++ [(f, t, sy)]) := hide (by
        rw [unhide HE, take_edge he1]
        unfold nrm
        rw [unhide Hf, unhide Ht, unhide Hs])
      have hLm : Lay1 N w (wr.alloc (.cells #[.int .u8 (e.1 : Int), .int .u8 (e.2.1 : Int), .int .u8 (e.2.2 : Int)] 77 (0, 0))) F1 mb (E.take j) (upd HR 40 (some (wr.heap.size, .cells #[.int .u8 (e.1 : Int), .int .u8 (e.2.1 : Int), .int .u8 (e.2.2 : Int)] 77 (0, 0)))) rows :=
        ⟨HL.st.newAlloc (r := 40) (by decide) _, HL.rows.congr (fun r hr => upd_other _ _ hr), fun r hr => by rw [upd_other _ _ (by omega)]; exact HL.keep r hr⟩
      have HLm := hide hLm
      clear he1 hc1 hc2 hc3 Hf Ht Hs hLm HL HP
      go_upto_region 13 with fail
      generalize wr.alloc (.cells #[.int .u8 (e.1 : Int), .int .u8 (e.2.1 : Int), .int .u8 (e.2.2 : Int)] 77 (0, 0)) = wb at HLm ⊢
      generalize (upd HR 40 (some (wr.heap.size, .cells #[.int .u8 (e.1 : Int), .int .u8 (e.2.1 : Int), .int .u8 (e.2.2 : Int)] 77 (0, 0)))) = HM at HLm
      rw [hf, ht]
      clear d1 d2 d3 hf ht hsy0
      obtain ⟨av, cv, hr1, hr2⟩ := (unhide HLm).rows.cell hf1
      have hml : (Plain.movesQ (E.take j) f).length ≤ 256 := by
        have h1 := Plain.movesQ_len (E.take j) f
        rw [List.length_take] at h1
        omega
      have Hmv := hide hr2
      have Hmr := hide hr1
      obtain ⟨nm, hnm⟩ : ∃ nm, nm = (Plain.movesQ (E.take j) f).length := ⟨_, rfl⟩
      have cf : wb.cell? ⟨mb, f, none⟩ = some (.slice av nm cv) := by rw [hnm]; exact (unhide HLm).st.cell (unhide HLm).rows.1 hr1
      rw [← hnm] at Hmv hml
      have Hnm := hide hnm
      have hfi : (f : Int) < (N : Int) := by omega
      have H41 : Hid (∀ h, (upd HM (50 + f) h) 41 = some (mb, .cells rows 78 (0, 0))) := hide (fun h => by rw [upd_other _ _ (by omega)]; exact (unhide HLm).rows.1)
      clear hr1 hr2 hnm
      go_upto_region 14 with (at_builtin; refine wpList_append_st (w0 := w) (H := HM) (F := F1) _ rfl (.tmp 93) (.tmp 97) 78 rfl (50 + f) (by omega) 81 iM (.agg #[.int .i64 0, .int .i64 0, .int .u8 0]) 3 24 Yba.underlying78 miI miZ miS miB rfl (by decide) (.slice av nm cv) nm (mvCells (Plain.movesQ (E.take j) f)) rfl ((unhide HLm).st.alloc _) (unhide Hmv) ⟨wb.heap.size, 0, none⟩ 1 1 [.int .i64 (t : Int), .int .i64 ((sy : Int) - 1), .int .u8 0] rfl rfl (cell_three_new _ _ _ _ _) (three_one _ _) (by unfold maxLen; omega) (by omega) ?_; intro v5 wc hf5 hst5 hrow5 hnil5; obtain ⟨a5, d5, hv5⟩ := (unhide hrow5).sl; subst hv5; have cg : wc.cell? ⟨mb, f, none⟩ = some (.slice av nm cv) := (unhide hst5).cell (unhide H41 hf5) (unhide Hmr |>.trans (by rw [unhide Hnm])); have zg : wc.frozen? ⟨mb, f, none⟩ = false := (unhide hst5).frozen (unhide H41 hf5) f)
      have HPn : Hid (∃ H rows, Lay1 N w (wc.setCell ⟨mb, f, none⟩ (.slice a5 (nm + 1) d5)) F1 mb (E.take (j + 1)) H rows) := hide (by
        rw [unhide hsn]
        refine ⟨_, _, (unhide hst5).set (unhide H41 hf5) f (.slice a5 (nm + 1) d5), (unhide HLm).rows.set hf1 (upd_same _ _ _) ?_ (fun r h1 h2 => by rw [upd_other _ _ (by omega), upd_other _ _ h2]), fun r hr => by rw [upd_other _ _ (by omega), upd_other _ _ (by omega)]; exact (unhide HLm).keep r hr⟩
        rw [upd_other _ _ (by omega), upd_same, ← unhide Hnm]
        exact unhide hrow5)
      clear cg zg cf hst5 hrow5 hnil5 HLm
      go_wp2
      go_roundw
      case rel => exact ⟨j + 1, by omega, by go_num, HPn⟩
      case measure => simp [intOf]; omega
    · have hjn : ne = j := by omega
      subst hjn
      rw [List.take_of_length_le (by rw [unhide hEl]; exact Nat.le_refl _)] at HP
      clear hlt hj
      go_upto_region 15 with fail
      obtain ⟨HR, rows, HL⟩ := unhide HP
      obtain ⟨H5, F5, hst5, hfle5, hk5, hF5, hnfa⟩ := nfa_built HL.st HL.rows
      have HS5 := hide hst5
      have HF5 := hide hF5
      have Hnf := hide hnfa
      have hFn5 : Hid (F5 nmk = some (nameCells, 9)) := hide (hfle5 _ _ (unhide hFn))
      have Hk5 : Hid (∀ r, r < 40 → H5 r = none) := hide (fun r hr => by rw [hk5 r (by omega)]; exact HL.keep r hr)
      clear hst5 hF5 hnfa hfle5 hk5 HL HP
      go_wp2_with fail
      generalize wr.alloc (.cells #[.slice (some ⟨mb, 0, none⟩) N N] 86 (0, 0)) = wc at HS5 ⊢
      generalize wr.heap.size = nb at HF5 Hnf ⊢
      refine (new_any HS5 N K nb mb 3 (some ⟨nmk, 0, none⟩) (by omega) (by omega) HF5).mono ?_
      rintro e w6 ⟨sb, ib, kb, tb, H6, rfl, hst6, g1, g8, g9, g10, gk⟩
      obtain ⟨lim, hlim, hl40⟩ : ∃ lim : Nat, (li : Int) % 40 = (lim : Int) ∧ lim ≤ 40 := ⟨li % 40, by omega, by omega⟩
      have c2 : w6.cell? ⟨sb, 2, none⟩ = some (.int .i64 (N : Int)) := hst6.cell g1 rfl
      have z2 : w6.frozen? ⟨sb, 2, none⟩ = false := hst6.frozen g1 2
      have hcl := cls_new (w0 := w) (N := N) (K := K) (E := E) (nb := nb) (sb := sb) (mb := ib) (kb := kb) (tb := tb) (sy := .slice (some ⟨nmk, 0, none⟩) K 3) (lim := .int .i64 (lim : Int)) (hst6.set g1 2 (.int .i64 (lim : Int))) (unhide Hnf) (upd_same _ _ _) ((upd_other _ _ (by decide)).trans g8) ((upd_other _ _ (by decide)).trans g9) ((upd_other _ _ (by decide)).trans g10) (fun r a1 a8 a9 a10 hr => by rw [upd_other _ _ a1, gk r a1 a8 a9 a10]; exact unhide Hk5 r (by omega)) hK3
      have HC7 := hide hcl.1
      have HT7 := hide hcl.2
      obtain ⟨s7, hs7⟩ : ∃ s7, s7 = { newSv nb ib kb tb N K (.slice (some ⟨nmk, 0, none⟩) K 3) with limit := .int .i64 (lim : Int) } := ⟨_, rfl⟩
      have Hsy : Hid (s7.syms = .slice (some ⟨nmk, 0, none⟩) K 3) := hide (by rw [hs7]; rfl)
      have Hli : Hid (s7.limit = .int .i64 (lim : Int)) := hide (by rw [hs7])
      rw [← hs7] at HC7 HT7
      obtain ⟨H7, hH7⟩ : ∃ H7, H7 = upd H6 1 (some (sb, .cells ((newSv nb ib kb tb N K (.slice (some ⟨nmk, 0, none⟩) K 3)).arr.setIfInBounds 2 (.int .i64 (lim : Int))) 91 (0, 0))) := ⟨_, rfl⟩
      have Hk7 : Hid (∀ r, r < 40 → 10 < r → H7 r = none) := hide (fun r hr h10 => by rw [hH7, upd_other _ _ (by omega), gk r (by omega) (by omega) (by omega) (by omega)]; exact unhide Hk5 r hr)
      rw [← hH7] at HC7 HT7
      clear hst6 g1 g8 g9 g10 gk hcl hs7 hH7 HS5 Hk5 HF5
      go_upto_region 18 with fail
      clear c2 z2
      generalize w6.setCell ⟨sb, 2, none⟩ (.int .i64 (lim : Int)) = w7 at HC7 ⊢
      have hmk2 := run_make_row' (P := Yba.prog) 89 3 (.int .i64 0) 8 Yba.underlying89 info3 rfl .i64 .i64 ns (by omega) (by omega)
      go_upto_region 20 with fail
      clear hmk2
      obtain ⟨fl, hfl⟩ : ∃ fl, fl = ss.map (fun q => q % N) := ⟨_, rfl⟩
      have hfll : fl.length = ns := by rw [hfl, List.length_map]; exact (unhide hs).1
      have Hfl := hide hfl
      have HflN : Hid (∀ q ∈ fl, q < N) := hide (by
        rw [hfl]
        intro q hq
        obtain ⟨x, _, rfl⟩ := List.mem_map.1 hq
        exact Nat.mod_lt _ hN0)
      clear hfl
      have HQ0 : Hid (∃ cur, St w (w7.alloc (.cells (madeCells #[.int .i64 0] ns) 3 (0, 0))) (upd H7 42 (some (w7.heap.size, .cells cur 3 (0, 0)))) F5 ∧ cur.size = ns ∧ ∀ x, x < 0 → cur[x]? = some (.int .i64 (fl.getD x 0 : Nat))) := hide ⟨_, (unhide HC7).st.newAlloc (r := 42) (by decide) _, by simp [madeCells], fun x hx => absurd hx (by omega)⟩
      generalize w7.alloc (.cells (madeCells #[.int .i64 0] ns) 3 (0, 0)) = w8 at HQ0 ⊢
      generalize w7.heap.size = stb at HQ0 ⊢
      go_wp2
      go_loopw [25, 118] (fun v25 v118 wr => ∃ (j : Nat), j ≤ ns ∧ v118 = .int .i64 j ∧ v25 = .int .u32 (Plain.maskOf (fl.take j)) ∧ Hid (∃ cur, St w wr (upd H7 42 (some (stb, .cells cur 3 (0, 0)))) F5 ∧ cur.size = ns ∧ ∀ x, x < j → cur[x]? = some (.int .i64 (fl.getD x 0 : Nat)))) (fun _ v118 _ => ns - (intOf v118).toNat)
      case atStart => exact ⟨0, Nat.zero_le _, rfl, rfl, HQ0⟩
      case round =>
        clear HQ0
        obtain ⟨j, hj, rfl, rfl, HQ⟩ := hrel
        have hy : Plain.maskOf (fl.take j) < 256 := lt256 hN8 (Plain.maskOf_lt (fun q hq => unhide HflN q (List.mem_of_mem_take hq)))
        by_cases hlt : j < ns
        · skip
          obtain ⟨cur, hst, hsz, hcu⟩ := unhide HQ
          obtain ⟨q, hq1, hq2, hq3⟩ := (unhide hs).2 j hlt
          have hbw := unhide hb3 (by omega)
          have haa := unhide ha3 (by omega)
          subst haa
          have d1 := (hst.below.cell (p := ⟨b3, o3 + j, none⟩) hbw).trans hq3
          obtain ⟨r, hr, hr1, Hr⟩ : ∃ f : Nat, (q : Int) % (N : Int) = (f : Int) ∧ f < 8 ∧ Hid (q % N = f) := ⟨q % N, mod_nat _ _, by have := Nat.mod_lt q hN0; omega, hide rfl⟩
          have hflj : fl.getD j 0 = r := by rw [unhide Hfl, ← unhide Hr]; simp [List.getD, hq1]
          have HS := hide (mask_snoc fl j (by omega))
          rw [hflj] at HS
          obtain ⟨v0, hv0⟩ : ∃ v0, cur[j]? = some v0 := ⟨_, Array.getElem?_eq_getElem (by omega)⟩
          have k0 : wr.cell? ⟨stb, j, none⟩ = some v0 := hst.cell (upd_same _ _ _) hv0
          have z0 : wr.frozen? ⟨stb, j, none⟩ = false := hst.frozen (upd_same _ _ _) j
          have hst2 := hst.set (r := 42) (upd_same _ _ _) j (.int .i64 (r : Int))
          have k1 : (wr.setCell ⟨stb, j, none⟩ (.int .i64 (r : Int))).cell? ⟨stb, j, none⟩ = some (.int .i64 (r : Int)) := hst2.cell (upd_same _ _ _) (by rw [Array.getElem?_setIfInBounds]; simp; omega)
          rw [upd_upd] at hst2
          have HQn : Hid (∃ cur, St w (wr.setCell ⟨stb, j, none⟩ (.int .i64 (r : Int))) (upd H7 42 (some (stb, .cells cur 3 (0, 0)))) F5 ∧ cur.size = ns ∧ ∀ x, x < j + 1 → cur[x]? = some (.int .i64 (fl.getD x 0 : Nat))) := hide ⟨_, hst2, by simp [hsz], fun x hx => by
            rw [Array.getElem?_setIfInBounds]
            by_cases ex : j = x
            · subst ex; rw [if_pos rfl, if_pos (by omega), hflj]
            · rw [if_neg ex]; exact hcu x (by omega)⟩
          have hs8 := shift8 hr1
          obtain ⟨p, hpp⟩ : ∃ p, p = 2 ^ r := ⟨_, rfl⟩
          have t3 : Hid (bits BinOp.or IntKind.u32 ((Plain.maskOf (fl.take j) : Nat) : Int) (p : Int) = ((Plain.maskOf (fl.take j) ||| 2 ^ r : Nat) : Int)) := by rw [hpp]; exact or_bit hy hr1
          rw [← hpp] at hs8
          have hjs : (j : Int) < (ns : Int) := by omega
          clear hpp hst hst2 hsz hcu hq1 hq3 hv0 HQ Hr hflj
          go_wp2
          go_roundw
          case rel => exact ⟨j + 1, by omega, by go_num, by rw [unhide t3, unhide HS], HQn⟩
          case measure => simp [intOf]; omega
        · have hjn : ns = j := by omega
          subst hjn
          rw [List.take_of_length_le (by omega)]
          clear hy hlt hj
          obtain ⟨fin, hfin, hfN⟩ : ∃ fin : Nat, (nd : Int) % (N : Int) = (fin : Int) ∧ fin < N := ⟨nd % N, mod_nat _ _, Nat.mod_lt _ hN0⟩
          go_upto_region 29 with fail
          rw [hfin]
          obtain ⟨cur, hst, hsz, hcu⟩ := unhide HQ
          have h1 := hst.newAlloc (r := 24) (by decide) (.cells #[.int .i64 (fin : Int)] 3 (0, 0))
          have h2 := h1.newAlloc (r := 22) (by decide) (.cells #[.slice none 0 0] 88 (0, 0))
          rw [size_alloc'] at h2
          obtain ⟨H9, hH9⟩ : ∃ H9, H9 = upd (upd (upd H7 42 (some (stb, .cells cur 3 (0, 0)))) 24 (some (wr.heap.size, .cells #[.int .i64 (fin : Int)] 3 (0, 0)))) 22 (some (wr.heap.size + 1, .cells #[.slice none 0 0] 88 (0, 0))) := ⟨_, rfl⟩
          rw [← hH9] at h2
          have e9 : Hid (∀ r, r < 40 → r ≠ 22 → r ≠ 24 → H9 r = H7 r) := hide (fun r h a b => by rw [hH9, upd_other _ _ a, upd_other _ _ b, upd_other _ _ (by omega)])
          have e22 : Hid (H9 22 = some (wr.heap.size + 1, .cells #[.slice none 0 0] 88 (0, 0))) := hide (by rw [hH9, upd_same])
          have e24 : Hid (H9 24 = some (wr.heap.size, .cells #[.int .i64 (fin : Int)] 3 (0, 0))) := hide (by rw [hH9, upd_other _ _ (by decide), upd_same])
          have e23 : Hid (H9 23 = none) := hide (by rw [unhide e9 23 (by decide) (by decide) (by decide)]; exact unhide Hk7 23 (by decide) (by decide))
          have Hfc : Hid (∀ x, x < fl.length → ((wr.alloc (.cells #[.int .i64 (fin : Int)] 3 (0, 0))).alloc (.cells #[.slice none 0 0] 88 (0, 0))).cell? ⟨stb, x, none⟩ = some (.int .i64 (fl.getD x 0 : Nat))) := hide (fun x hx => h2.cell (r := 42) (by rw [hH9, upd_other _ _ (by decide), upd_other _ _ (by decide), upd_same]) (hcu x (by omega)))
          have HC9 := hide ((unhide HC7).move h2 (fun r hr => unhide e9 r (by omega) (by omega) (by omega)))
          have HT9 : Hid (Tg K H9 s7 (fun _ => [])) := hide (by
            obtain ⟨⟨tb', tv', g1, g2⟩, n', xs', g3⟩ := unhide HT7
            exact ⟨⟨tb', tv', g1, g2.congr (fun r a b => unhide e9 r (by omega) (by omega) (by omega)) (fun _ _ => rfl)⟩, n', xs', by rw [unhide e9 14 (by decide) (by decide) (by decide)]; exact g3⟩)
          have hEN : Hid (∀ e ∈ E, e.2.1 < N) := hide (by rw [unhide HE]; exact nrm_lt hN0 es)
          have hEK : Hid (∀ e ∈ E, e.2.2 ≤ K) := hide (by
            rw [unhide HE]
            intro e he'
            obtain ⟨x, _, rfl⟩ := List.mem_map.1 he'
            have := Nat.mod_lt x.2.2 (show 0 < K + 1 by omega)
            show x.2.2 % (K + 1) ≤ K
            omega)
          have hE256 : E.length ≤ 256 := by rw [unhide hEl]; exact hne
          clear hst hsz hcu h1 h2 hH9 HQ HC7 HT7
          generalize (wr.alloc (.cells #[.int .i64 (fin : Int)] 3 (0, 0))).alloc (.cells #[.slice none 0 0] 88 (0, 0)) = w9 at Hfc HC9 ⊢
          generalize wr.heap.size + 1 = lb at e22 ⊢
          generalize wr.heap.size = fb at e24 ⊢
          rw [← hfll]
          have hfl256 : fl.length ≤ 256 := by omega
          have Hfll := hide hfll
          clear hfll
          go_wp2_with fail
          refine (dfa_any lim fin (some ⟨nmk, 0, none⟩) 3 HC9 HT9 hN0 hN8 hK0 hK3 hEN hEK hE256 Hsy Hli hl40 hfN fl HflN hfl256 stb fl.length Hfc lb fb e22 e23 e24).mono ?_
          rintro e w10 hpost
          obtain ⟨dp, ok, HA, FA, rfl, hstA, hfleA, hkeepA, hdout⟩ := dout_of hpost
          have HSA := hide hstA
          have HDo := hide hdout
          have hFnA : Hid (FA nmk = some (nameCells, 9)) := hide (hfleA _ _ (unhide hFn5))
          have HkA : Hid (HA 31 = none ∧ HA 32 = none) := hide ⟨by rw [hkeepA 31 (by decide) (by decide), unhide e9 31 (by decide) (by decide) (by decide)]; exact unhide Hk7 31 (by decide) (by decide), by rw [hkeepA 32 (by decide) (by decide), unhide e9 32 (by decide) (by decide) (by decide)]; exact unhide Hk7 32 (by decide) (by decide)⟩
          have hsm : Plain.maskOf fl < 2 ^ N := Plain.maskOf_lt (unhide HflN)
          have heA : Hid (EdgesAt w10 b2 o2 ne es) := hide ((unhide he).below hstA.below (unhide hb2))
          have hbA : Hid (0 < ne → b2 < w10.heap.size) := hide (fun h => Nat.lt_of_lt_of_le (unhide hb2 h) hstA.size)
          clear hstA hdout hpost hfleA hkeepA HC9 HT9 Hfc e22 e23 e24 e9 Hk7 hFn5 Hnf
          go_wp2_with fail
          refine (close_any N K b2 o2 ne ce a2 (Plain.maskOf fl) es w10 hN0 hN8 hK0 hK3 hne hsm ha2 hbA heA).mono ?_
          rintro e w11 ⟨rfl, hb11⟩
          rw [← unhide HE]
          have hcl0 : Plain.closeM N E (Plain.maskOf fl) < 2 ^ N := Plain.closeM_lt (unhide hEN) hsm
          generalize Plain.closeM N E (Plain.maskOf fl) = c0 at HDo hcl0 ⊢
          have hc256 : c0 < 256 := lt256 hN8 hcl0
          have HSB := hide ((unhide HSA).weak hb11)
          clear hb11 HSA hbA heA hsm
          go_upto_region 32 with fail
          have HM0 : Hid (Mod N K E c0 w (w11.alloc (.cells #[.int .u32 (c0 : Int)] 92 (0, 0))) HA FA 0 (.slice (some ⟨w11.heap.size, 0, none⟩) 1 1) (.slice none 0 0) (upd HA 30 (some (w11.heap.size, .cells #[.int .u32 (c0 : Int)] 92 (0, 0)))) FA) := hide (by
            refine ⟨(unhide HSB).newAlloc (r := 30) (by decide) _, FLe.refl _, fun r a b c => upd_other _ _ a, ?_, ⟨[], ?_, fun j row h => by cases h⟩, by rw [upd_other _ _ (by decide)]; exact (unhide HkA).2⟩
            · rw [upd_same]
              exact ⟨rfl, Or.inr ⟨_, 1, #[.int .u32 (c0 : Int)], rfl, rfl, Nat.le_refl _, by unfold maxLen; omega, rfl, rfl⟩⟩
            · rw [upd_other _ _ (by decide), (unhide HkA).1]
              exact RowV.nil _ _)
          generalize w11.alloc (.cells #[.int .u32 (c0 : Int)] 92 (0, 0)) = w12 at HM0 ⊢
          generalize w11.heap.size = ob at HM0 ⊢
          generalize (upd HA 30 (some (ob, .cells #[.int .u32 (c0 : Int)] 92 (0, 0)))) = HB at HM0
          have hgood : Hid (∀ i, Plain.Good N (Plain.bfs N K E c0 i).1) := hide (fun i => Plain.bfs_good (unhide hEN) hcl0 i)
          have hg256 : Hid (∀ i, (Plain.bfs N K E c0 i).1.length ≤ 256) := hide (fun i => Good.le256 (unhide hgood i) hN8)
          clear HSB HkA
          go_wp2
          go_loopw [33, 34, 35] (fun v33 v34 v35 wr => ∃ (i : Nat) (ao : Option Addr) (co : Nat) (ar : Option Addr) (cr : Nat) (H : Nat → Option (Nat × Obj)) (F : Nat → Option (Array Value × TypeId)), v35 = .int .i64 i ∧ v33 = .slice ao (Plain.bfs N K E c0 i).1.length co ∧ v34 = .slice ar i cr ∧ i ≤ (Plain.bfs N K E c0 i).1.length ∧ Hid (∀ j, j < i → j < (Plain.bfs N K E c0 j).1.length) ∧ Hid (Mod N K E c0 w wr HA FA i (.slice ao (Plain.bfs N K E c0 i).1.length co) (.slice ar i cr) H F)) (fun _ _ v35 _ => 256 - (intOf v35).toNat)
          case atStart => exact ⟨0, _, _, _, _, HB, FA, rfl, rfl, rfl, Nat.zero_le _, hide (fun j hj => absurd hj (by omega)), HM0⟩
          case round =>
            clear HM0
            obtain ⟨i, ao, co, ar, cr, HI, FI, rfl, rfl, rfl, hile, HJ, HM⟩ := hrel
            have hLl := unhide hg256 i
            by_cases hlt : i < (Plain.bfs N K E c0 i).1.length
            · skip
              obtain ⟨m, hm⟩ : ∃ m, (Plain.bfs N K E c0 i).1[i]? = some m := ⟨_, List.getElem?_eq_getElem hlt⟩
              have hgd : (Plain.bfs N K E c0 i).1.getD i 0 = m := by simp [List.getD, hm]
              have hb1 : Hid ((Plain.bfs N K E c0 (i + 1)).1 = (Plain.rowTo N E (Plain.bfs N K E c0 i).1 m K).1) := hide (by rw [← hgd]; rfl)
              have hb2' : Hid ((Plain.bfs N K E c0 (i + 1)).2 = (Plain.bfs N K E c0 i).2 ++ [(Plain.rowTo N E (Plain.bfs N K E c0 i).1 m K).2]) := hide (by rw [← hgd]; rfl)
              have hm2 : m < 2 ^ N := (unhide hgood i).2 m (List.mem_of_getElem? hm)
              have Hm := hide hm
              clear hm hgd
              have HI0 : Hid (Inn w wr HI FI (Plain.rowTo N E (Plain.bfs N K E c0 i).1 m 0) (.slice ao (Plain.bfs N K E c0 i).1.length co) (.slice none 0 0) HI) := hide ⟨(unhide HM).st, fun _ _ _ => rfl, (unhide HM).ord, by rw [(unhide HM).row]; exact RowV.nil _ _⟩
              go_wp2
              go_loopw [33, 36, 37] (fun v33 v36 v37 wr => ∃ (sym : Nat) (ao : Option Addr) (co : Nat) (a6 : Option Addr) (c6 : Nat) (H : Nat → Option (Nat × Obj)), sym ≤ K ∧ v37 = .int .i64 sym ∧ v33 = .slice ao (Plain.rowTo N E (Plain.bfs N K E c0 i).1 m sym).1.length co ∧ v36 = .slice a6 (Plain.rowTo N E (Plain.bfs N K E c0 i).1 m sym).2.length c6 ∧ Hid (Inn w wr HI FI (Plain.rowTo N E (Plain.bfs N K E c0 i).1 m sym) (.slice ao (Plain.rowTo N E (Plain.bfs N K E c0 i).1 m sym).1.length co) (.slice a6 (Plain.rowTo N E (Plain.bfs N K E c0 i).1 m sym).2.length c6) H)) (fun _ _ v37 _ => K - (intOf v37).toNat)
              case atStart => exact ⟨0, ao, co, none, 0, HI, Nat.zero_le _, rfl, rfl, rfl, HI0⟩
              case round =>
                clear HI0
                obtain ⟨sym, ao, co, a6, c6, HX, hsy, rfl, rfl, rfl, HIn⟩ := hrel
                by_cases hltS : sym < K
                · have hgS := Plain.rowTo_good (unhide hEN) (m := m) (unhide hgood i) sym
                  have hpre := Plain.rowTo_prefix N E (Plain.bfs N K E c0 i).1 m sym
                  have hsucc := hide (Plain.rowTo_succ N E (Plain.bfs N K E c0 i).1 m sym)
                  have hrl := Plain.rowTo_row_len N E (Plain.bfs N K E c0 i).1 m sym
                  have hpl := hpre.length_le
                  obtain ⟨P, hP⟩ : ∃ P, P = Plain.rowTo N E (Plain.bfs N K E c0 i).1 m sym := ⟨_, rfl⟩
                  rw [← hP] at hgS hpre hsucc hrl hpl HIn ⊢
                  clear hP
                  obtain ⟨S, row⟩ := P
                  simp only at hgS hpre hrl hpl HIn ⊢
                  have hSl := Good.le256 hgS hN8
                  obtain ⟨bo, hbo⟩ := (unhide HIn).ord.head (show 0 < S.length by omega)
                  subst hbo
                  have co1 : wr.cell? ⟨bo, i, none⟩ = some (.int .u32 (m : Int)) := (unhide HIn).ord.cell (unhide HIn).st (u32s_get (get_prefix hpre (unhide Hm)))
                  have heI : Hid (EdgesAt wr b2 o2 ne es) := hide ((unhide he).below (unhide HIn).st.below (unhide hb2))
                  have hbI : Hid (0 < ne → b2 < wr.heap.size) := hide (fun h => Nat.lt_of_lt_of_le (unhide hb2 h) (unhide HIn).st.size)
                  have hii : (i : Int) < (S.length : Int) := by omega
                  clear hgS hpre
                  go_wp2_with fail
                  refine (step_any N K b2 o2 ne ce a2 m sym es wr hN0 hN8 hK0 hK3 hne hm2 hltS ha2 hbI heI).mono ?_
                  rintro e w13 ⟨rfl, hb13⟩
                  rw [← unhide HE]
                  have hslt : Plain.stepC N E m sym < 256 := lt256 hN8 (Plain.stepC_lt (unhide hEN))
                  obtain ⟨t, ht⟩ : ∃ t, t = Plain.stepC N E m sym := ⟨_, rfl⟩
                  rw [← ht] at hslt ⊢
                  have Ht := hide ht
                  have HI13 := hide ((unhide HIn).weak hb13)
                  clear ht HIn hb13 heI hbI co1
                  by_cases ht0 : t = 0
                  · subst ht0
                    have Hp : Hid (Plain.rowTo N E (Plain.bfs N K E c0 i).1 m (sym + 1) = (S, row)) := hide (by rw [unhide hsucc]; unfold Plain.proc; rw [if_pos (unhide Ht).symm])
                    go_wp2
                    go_roundw
                    case rel => exact ⟨sym + 1, some ⟨bo, 0, none⟩, co, a6, c6, HX, by omega, by go_num, by rw [unhide Hp], by rw [unhide Hp], hide (by rw [unhide Hp]; exact unhide HI13)⟩
                    case measure => simp [intOf]; omega
                  · have htI : ¬ (t : Int) = 0 := by omega
                    have Hp : Hid (Plain.rowTo N E (Plain.bfs N K E c0 i).1 m (sym + 1) = (if t ∈ S then S else S ++ [t], row ++ [(S.idxOf t, sym)])) := hide (by rw [unhide hsucc]; unfold Plain.proc; rw [if_neg (by rw [← unhide Ht]; exact ht0), ← unhide Ht])
                    go_wp2_with fail
                    refine (index_any (hide (unhide HI13).st) bo co S (hide (unhide HI13).ord) (by omega) t).mono ?_
                    rintro e w14 ⟨rfl, hw14⟩
                    subst hw14
                    by_cases hmem : t ∈ S
                    · have hidx : idxI S t = ((S.idxOf t : Nat) : Int) := if_pos hmem
                      have hixl : S.idxOf t < S.length := List.idxOf_lt_length_iff.2 hmem
                      rw [if_pos hmem] at Hp
                      rw [hidx]
                      generalize S.idxOf t = ix at hixl Hp ⊢
                      clear hidx
                      have hix0 : ¬ (ix : Int) < 0 := by omega
                      go_upto_region 38 with (at_builtin; refine wpList_append_st (w0 := w) (H := HX) (F := FI) _ rfl (.tmp 190) (.tmp 194) 78 rfl 32 (by decide) 81 iM (.agg #[.int .i64 0, .int .i64 0, .int .u8 0]) 3 24 Yba.underlying78 miI miZ miS miB rfl (by decide) (.slice a6 row.length c6) row.length (rwCells row) rfl ((unhide HI13).st.alloc _) (unhide HI13).row ⟨w14.heap.size, 0, none⟩ 1 1 [.int .i64 (ix : Int), .int .i64 (sym : Int), .int .u8 0] rfl rfl (cell_three_new _ _ _ _ _) (three_one _ _) (by unfold maxLen; omega) (by omega) ?_; intro v6 w15 h32 hst32 hrow32 hnil32; obtain ⟨a7, c7, hv7⟩ := (unhide hrow32).sl; subst hv7)
                      have HIn : Hid (Inn w w15 HI FI (S, row ++ [(ix, sym)]) (.slice (some ⟨bo, 0, none⟩) S.length co) (.slice a7 (row.length + 1) c7) (upd HX 32 h32)) := hide ⟨unhide hst32, fun r h1 h2 => by rw [upd_other _ _ h2]; exact (unhide HI13).keep r h1 h2, by rw [upd_other _ _ (by decide)]; exact (unhide HI13).ord, by rw [upd_same, rwCells_snoc, List.length_append, List.length_singleton]; exact unhide hrow32⟩
                      clear hst32 hrow32 hnil32 HI13
                      go_wp2
                      go_roundw
                      case rel => exact ⟨sym + 1, some ⟨bo, 0, none⟩, co, a7, c7, _, by omega, by go_num, by rw [unhide Hp], by rw [unhide Hp, List.length_append, List.length_singleton], hide (by rw [unhide Hp, List.length_append, List.length_singleton]; exact unhide HIn)⟩
                      case measure => simp [intOf]; omega
                    · have hidx : idxI S t = -1 := if_neg hmem
                      have hixl : S.idxOf t = S.length := List.idxOf_eq_length hmem
                      rw [if_neg hmem, hixl] at Hp
                      rw [hidx]
                      clear hidx hixl
                      go_upto_region 45 with (at_builtin; refine wpList_append_st (w0 := w) (H := HX) (F := FI) _ rfl (.tmp 186) (.tmp 188) 99 rfl 30 (by decide) 92 iU (.int .u32 0) 1 4 Yba.underlying99 uiI uiZ uiS uiB rfl (by decide) (.slice (some ⟨bo, 0, none⟩) S.length co) S.length (u32s S) rfl ((unhide HI13).st.alloc _) (unhide HI13).ord ⟨w14.heap.size, 0, none⟩ 1 1 [.int .u32 (t : Int)] rfl rfl (cell_one_new _ _ _) (one_u32 _) (by unfold maxLen; omega) (by omega) ?_; intro v6 w15 h30 hst30 hrow30 hnil30; obtain ⟨a8, c8, hv8⟩ := (unhide hrow30).sl; subst hv8)
                      have HR32 : Hid (RowV ((upd HX 30 h30) 32) 81 3 (.slice a6 row.length c6) row.length (rwCells row)) := hide (by rw [upd_other _ _ (by decide)]; exact (unhide HI13).row)
                      go_upto_region 38 with (at_builtin; refine wpList_append_st (w0 := w) (H := upd HX 30 h30) (F := FI) _ rfl (.tmp 190) (.tmp 194) 78 rfl 32 (by decide) 81 iM (.agg #[.int .i64 0, .int .i64 0, .int .u8 0]) 3 24 Yba.underlying78 miI miZ miS miB rfl (by decide) (.slice a6 row.length c6) row.length (rwCells row) rfl ((unhide hst30).alloc _) (unhide HR32) ⟨w15.heap.size, 0, none⟩ 1 1 [.int .i64 (S.length : Int), .int .i64 (sym : Int), .int .u8 0] rfl rfl (cell_three_new _ _ _ _ _) (three_one _ _) (by unfold maxLen; omega) (by omega) ?_; intro v6 w16 h32 hst32 hrow32 hnil32; obtain ⟨a7, c7, hv7⟩ := (unhide hrow32).sl; subst hv7)
                      have HIn : Hid (Inn w w16 HI FI (S ++ [t], row ++ [(S.length, sym)]) (.slice a8 (S.length + 1) c8) (.slice a7 (row.length + 1) c7) (upd (upd HX 30 h30) 32 h32)) := hide ⟨unhide hst32, fun r h1 h2 => by rw [upd_other _ _ h2, upd_other _ _ h1]; exact (unhide HI13).keep r h1 h2, by rw [upd_other _ _ (by decide), upd_same, u32s_snoc, List.length_append, List.length_singleton]; exact unhide hrow30, by rw [upd_same, rwCells_snoc, List.length_append, List.length_singleton]; exact unhide hrow32⟩
                      clear hst32 hrow32 hnil32 HI13 hst30 hrow30 hnil30 HR32
                      go_wp2
                      go_roundw
                      case rel => exact ⟨sym + 1, a8, c8, a7, c7, _, by omega, by go_num, by rw [unhide Hp, List.length_append, List.length_singleton], by rw [unhide Hp, List.length_append, List.length_singleton], hide (by rw [unhide Hp]; simp only [List.length_append, List.length_singleton]; exact unhide HIn)⟩
                      case measure => simp [intOf]; omega
                · have hsK : K = sym := by omega
                  subst hsK
                  obtain ⟨F8, hst8, hfle8, hro8⟩ := (unhide HIn).row.freeze0 (unhide HIn).st (by decide)
                  obtain ⟨rvs, hrv1, hrv2⟩ := (unhide HM).rows
                  have hrl := Plain.rowTo_row_len N E (Plain.bfs N K E c0 i).1 m K
                  have hR31 : Hid (RowV ((upd HX 32 none) 31) 78 1 (.slice ar i cr) i rvs) := hide (by rw [upd_other _ _ (by decide), (unhide HIn).keep 31 (by decide) (by decide)]; exact hrv1)
                  have HS8 := hide hst8
                  have Hf8 := hide hfle8
                  have Hro8 := hide hro8
                  have Hrv2 := hide hrv2
                  clear hst8 hfle8 hro8 hrv1 hrv2
                  go_upto_region 34 with (at_builtin; refine wpList_append_st (w0 := w) (H := upd HX 32 none) (F := F8) _ rfl (.tmp 196) (.tmp 198) 75 rfl 31 (by decide) 78 iS (.slice none 0 0) 1 24 Yba.underlying75 siI siZ siS siB rfl (by decide) (.slice ar i cr) i rvs rfl ((unhide HS8).alloc _) (unhide hR31) ⟨wr.heap.size, 0, none⟩ 1 1 [.slice a6 (Plain.rowTo N E (Plain.bfs N K E c0 i).1 m K).2.length c6] rfl rfl (cell_one_new _ _ _) (one_slice _ _ _) (by unfold maxLen; omega) (by omega) ?_; intro v31 w9 h31 hst31 hrow31 hnil31; obtain ⟨a9, c9, hv9⟩ := (unhide hrow31).sl; subst hv9)
                  have HMn : Hid (Mod N K E c0 w w9 HA FA (i + 1) (.slice ao (Plain.bfs N K E c0 (i + 1)).1.length co) (.slice a9 (i + 1) c9) (upd (upd HX 32 none) 31 h31) F8) := hide (by
                    refine ⟨unhide hst31, FLe.trans (unhide HM).fle (unhide Hf8), fun r r30 r31 r32 => by rw [upd_other _ _ r31, upd_other _ _ r32, (unhide HIn).keep r r30 r32]; exact (unhide HM).keep r r30 r31 r32, ?_, ⟨_, by rw [upd_same]; exact unhide hrow31, fun j rw' hj => ?_⟩, by rw [upd_other _ _ (by decide), upd_same]⟩
                    · rw [upd_other _ _ (by decide), upd_other _ _ (by decide), unhide hb1]; exact (unhide HIn).ord
                    · rw [unhide hb2'] at hj
                      have hbl : (Plain.bfs N K E c0 i).2.length = i := Plain.bfs_rows N K E c0 i
                      have hnl : rvs.length = i := by have := (unhide hR31).1; omega
                      by_cases hjl : j < i
                      · rw [List.getElem?_append_left (by omega)] at hj
                        obtain ⟨v, h1, h2⟩ := unhide Hrv2 j rw' hj
                        exact ⟨v, by rw [List.getElem?_append_left (by omega)]; exact h1, h2.mono (unhide Hf8)⟩
                      · have hji : j = i := by
                          have := (List.getElem?_eq_some_iff.1 hj).1
                          simp at this
                          omega
                        subst hji
                        rw [List.getElem?_append_right (by omega), hbl, Nat.sub_self] at hj
                        simp only [List.getElem?_cons_zero, Option.some.injEq] at hj
                        subst hj
                        exact ⟨_, by rw [List.getElem?_append_right (by omega), hnl, Nat.sub_self]; rfl, unhide Hro8⟩)
                  have hnx : i + 1 ≤ (Plain.bfs N K E c0 (i + 1)).1.length := by have := Plain.bfs_len_mono N K E c0 (show i ≤ i + 1 by omega); omega
                  have HJn : Hid (∀ j, j < i + 1 → j < (Plain.bfs N K E c0 j).1.length) := hide (fun j hj => by
                    by_cases e : j = i
                    · subst e; exact hlt
                    · exact unhide HJ j (by omega))
                  clear hst31 hrow31 hnil31 HS8 HIn
                  go_wp2
                  go_roundw
                  case rel => exact ⟨i + 1, ao, co, a9, c9, _, F8, by go_num, by rw [unhide hb1], rfl, hnx, HJn, HMn⟩
                  case measure => simp [intOf]; omega
            · have hin : (Plain.bfs N K E c0 i).1.length = i := by omega
              have hlk := (unhide hgood i).2
              rw [hin]
              rcases Dout.over ((unhide HDo).move (fun r h1 h2 => (unhide HM).keep r (by omega) (by omega) (by omega)) (unhide HM).fle) (unhide HJ) hin with ⟨hp, hok, hlm⟩ | ⟨db, dn, df, hp, hok, hlm, hC⟩
              · subst hp hok
                have hlmi : (lim : Int) < (i : Int) := by omega
                go_wp2
                go_ret
                exact ⟨rfl, (unhide HM).st.below⟩
              · subst hp hok
                have hlmi : ¬ (lim : Int) < (i : Int) := by omega
                obtain ⟨nvs, hnx1, hnx2⟩ := hC.next
                obtain ⟨an, cn, hdn⟩ := hnx1.sl
                have hfi := hC.final
                obtain ⟨af, cf, hdf⟩ := hfi.sl
                obtain ⟨al, cl, lvs, hl1, hl2, hl3⟩ := hC.log
                subst hdn hdf
                obtain ⟨rvs, hrv1, hrv2⟩ := (unhide HM).rows
                have hord := (unhide HM).ord
                rw [hin] at hord
                have HSt := hide (unhide HM).st
                have Hd := hide hC.d
                have Hfn := hide hC.fin
                have Hl1 := hide hl1
                have Hl2 := hide hl2
                have Hl3 := hide hl3
                have Hnx1 := hide hnx1
                have Hnx2 := hide hnx2
                have Hfi := hide hfi
                have Hrv1 := hide hrv1
                have Hrv2 := hide hrv2
                have Hord := hide hord
                have Hin := hide hin
                have Hlk := hide hlk
                have hFnI : Hid (FI nmk = some (nameCells, 9)) := hide ((unhide HM).fle _ _ (unhide hFnA))
                have d0 : wr.cell? ⟨db, 0, none⟩ = some (.slice (some ⟨nmk, 0, none⟩) K 3) := (unhide HSt).cell (unhide Hd) rfl
                have d1 : wr.cell? ⟨db, 1, none⟩ = some (.slice an i cn) := (unhide HSt).cell (unhide Hd) rfl
                have d2 : wr.cell? ⟨db, 2, none⟩ = some (.slice af i cf) := (unhide HSt).cell (unhide Hd) rfl
                have l0 : wr.cell? ⟨lb, 0, none⟩ = some (.slice al i cl) := (unhide HSt).cell (unhide Hl1) rfl
                clear hC hnx1 hnx2 hfi hl1 hl2 hl3 hrv1 hrv2 hord hin HM HDo hlt hlk
                go_wp2_with fail
                have hnc : ∀ j, j < nameList.length → wr.cell? ⟨nmk, 0 + j, none⟩ = some (.string (nameList.getD j ByteArray.empty)) := fun j hj => (unhide HSt).cellRo (unhide hFnI) (name_get j hj)
                refine (Yba.slices_Equal_string nmk 0 K 3 nmk 0 K 3 nameList nameList wr (show K ≤ 3 from hK3) (show K ≤ 3 from hK3) (by omega) (by omega) hnc hnc).mono ?_
                rintro e w20 ⟨rfl, q, rfl⟩
                rw [decide_eq_true (rfl : nameList.take K = nameList.take K)]
                have HS20 := hide ((unhide HSt).drewN q)
                clear d0 d1 d2 l0 hnc HSt
                generalize wr.drewN q = w20 at HS20 ⊢
                go_upto_region 56 with fail
                go_loopw [250] (fun v250 wr => ∃ (x : Nat), x ≤ i ∧ v250 = .int .i64 x ∧ Hid (St w wr HI FI)) (fun v250 _ => i - (intOf v250).toNat)
                case atStart => exact ⟨0, Nat.zero_le _, rfl, HS20⟩
                case round =>
                  clear HS20
                  obtain ⟨x, hxi, rfl, HS21⟩ := hrel
                  by_cases hltx : x < i
                  · obtain ⟨m, hm⟩ : ∃ m, (Plain.bfs N K E c0 i).1[x]? = some m := ⟨_, List.getElem?_eq_getElem (by rw [unhide Hin]; exact hltx)⟩
                    have htk : ((Plain.bfs N K E c0 i).1.take i)[x]? = some m := by rw [List.getElem?_take_of_lt hltx]; exact hm
                    have hm2 : m < 2 ^ N := unhide Hlk m (List.mem_of_getElem? hm)
                    obtain ⟨row, hrow⟩ : ∃ row, (Plain.bfs N K E c0 i).2[x]? = some row := ⟨_, List.getElem?_eq_getElem (by rw [Plain.bfs_rows]; exact hltx)⟩
                    have hrowK : row.length ≤ K := Plain.bfs_row_len N K E c0 i x row hrow
                    obtain ⟨aS, cS, hS1, HSr⟩ := ro_sets (unhide Hl3) htk
                    obtain ⟨nv, hnv1, hnv2⟩ := unhide Hnx2 x row hrow
                    have hnv3 := hnv2
                    obtain ⟨_, rb, rc, _, hnv4, _⟩ := hnv3
                    subst hnv4
                    obtain ⟨rv, hrvx, hrvr⟩ := unhide Hrv2 x row hrow
                    obtain ⟨a7, c7, hrv7, hro7⟩ := hrvr.sl
                    subst hrv7
                    obtain ⟨lbb, hlbb⟩ := (unhide Hl2).head (by omega)
                    obtain ⟨nbk, hnbk⟩ := (unhide Hnx1).head (by omega)
                    obtain ⟨fbk, hfbk⟩ := (unhide Hfi).head (by omega)
                    obtain ⟨arb, harb⟩ := (unhide Hrv1).head (by omega)
                    obtain ⟨bo, hbo⟩ := (unhide Hord).head (by omega)
                    subst hlbb hnbk hfbk harb hbo
                    have Hnro := hide hnv2
                    have Hnv := hide hnv1
                    have Hrv := hide hrvx
                    have Hro7 := hide hro7
                    have l0 : wr.cell? ⟨lb, 0, none⟩ = some (.slice (some ⟨lbb, 0, none⟩) i cl) := (unhide HS21).cell (unhide Hl1) rfl
                    have lx : wr.cell? ⟨lbb, x, none⟩ = some (.slice aS (Plain.elems N m).length cS) := (unhide Hl2).cell (unhide HS21) hS1
                    have hSt : Hid (StatesAt wr aS (Plain.elems N m).length (Plain.elems N m)) := hide ⟨rfl, fun hp => by
                      obtain ⟨a', c', h1, h2⟩ := (unhide HSr).sl
                      cases h1
                      obtain ⟨b, hb, hro⟩ := h2 hp
                      exact ⟨b, 0, hb, fun j hj => by rw [Nat.zero_add]; exact hro.cell (unhide HS21) (getInt _ j hj)⟩⟩
                    have hxii : (x : Int) < (i : Int) := by omega
                    have Hm := hide hm
                    have Htk := hide htk
                    clear hS1 hnv1 hnv2 hrvx hrvr hro7 hrow hm htk
                    go_wp2_with fail
                    refine (mask_any N (Plain.elems N m).length cS m aS wr hN0 hN8 hm2 hSt).mono ?_
                    rintro e w21 ⟨rfl, hw21⟩
                    have hw := hw21.symm
                    subst hw
                    clear l0 lx
                    have gm : wr.cell? ⟨bo, x, none⟩ = some (.int .u32 (m : Int)) := (unhide Hord).cell (unhide HS21) (u32s_get (unhide Hm))
                    go_upto_region 61 with fail
                    have g2 : wr.cell? ⟨db, 2, none⟩ = some (.slice (some ⟨fbk, 0, none⟩) i cf) := (unhide HS21).cell (unhide Hd) rfl
                    have gf : wr.cell? ⟨fbk, x, none⟩ = some (.bool (m.testBit fin)) := (unhide Hfi).cell (unhide HS21) (by rw [List.getElem?_map, unhide Htk]; rfl)
                    have gn : wr.cell? ⟨fb, 0, none⟩ = some (.int .i64 (fin : Int)) := (unhide HS21).cell (unhide Hfn) rfl
                    have hm256 : m < 256 := lt256 hN8 hm2
                    have hs8 := shift8 (show fin < 8 by omega)
                    obtain ⟨p, hpp⟩ : ∃ p, p = 2 ^ fin := ⟨_, rfl⟩
                    have hyes := @and_yes m fin hm256 (by omega)
                    have hno := @and_no m fin hm256 (by omega)
                    rw [← hpp] at hs8 hyes hno
                    cases hbt : m.testBit fin with
                    | true =>
                      have t1 := hyes hbt
                      rw [hbt] at gf
                      have t1c : (bits BinOp.and IntKind.u32 (m : Int) (p : Int) != 0) = true := bne_iff_ne.2 t1
                      clear hyes hno hpp hbt
                      go_quiet (fail)
                      have HS22 := hide ((unhide HS21).drewN nq)
                      generalize wr.drewN nq = w22 at HS22 ⊢
                      clear HS21 g2 gf gm gn
                      have k1 : w22.cell? ⟨db, 1, none⟩ = some (.slice (some ⟨nbk, 0, none⟩) i cn) := (unhide HS22).cell (unhide Hd) rfl
                      have k2 : w22.cell? ⟨nbk, x, none⟩ = some (.slice (some ⟨rb, 0, none⟩) row.length rc) := (unhide Hnx1).cell (unhide HS22) (unhide Hnv)
                      have k3 : w22.cell? ⟨arb, x, none⟩ = some (.slice a7 row.length c7) := (unhide Hrv1).cell (unhide HS22) (unhide Hrv)
                      go_upto_region 63 with fail
                      go_quiet (fail)
                      have HS23 := hide ((unhide HS22).drewN nq)
                      clear HS22 k1 k2 k3
                      generalize w22.drewN nq = w23 at HS23 ⊢
                      have k3 : w23.cell? ⟨arb, x, none⟩ = some (.slice a7 row.length c7) := (unhide Hrv1).cell (unhide HS23) (unhide Hrv)
                      go_upto_region 66 with fail
                      clear k3
                      go_loopw [308] (fun v308 wr => ∃ (y : Nat), y ≤ row.length ∧ v308 = .int .i64 y ∧ Hid (St w wr HI FI)) (fun v308 _ => row.length - (intOf v308).toNat)
                      case atStart => exact ⟨0, Nat.zero_le _, rfl, HS23⟩
                      case round =>
                        clear HS23
                        obtain ⟨y, hyl, rfl, HS24⟩ := hrel
                        by_cases hlty : y < row.length
                        · obtain ⟨⟨t, sy⟩, hty⟩ : ∃ p, row[y]? = some p := ⟨_, List.getElem?_eq_getElem hlty⟩
                          obtain ⟨m1, m2, m3⟩ := rwCells_get _ _ _ _ hty
                          obtain ⟨b7, hb7, hro7⟩ := unhide Hro7 (by omega)
                          subst hb7
                          have j1 : wr.cell? ⟨db, 1, none⟩ = some (.slice (some ⟨nbk, 0, none⟩) i cn) := (unhide HS24).cell (unhide Hd) rfl
                          have j2 : wr.cell? ⟨nbk, x, none⟩ = some (.slice (some ⟨rb, 0, none⟩) row.length rc) := (unhide Hnx1).cell (unhide HS24) (unhide Hnv)
                          have j3 : wr.cell? ⟨arb, x, none⟩ = some (.slice (some ⟨b7, 0, none⟩) row.length c7) := (unhide Hrv1).cell (unhide HS24) (unhide Hrv)
                          have j4 : wr.cell? ⟨rb, y * 3, none⟩ = some (.int .i64 (t : Int)) := (unhide Hnro).cell (unhide HS24) m1
                          have j5 : wr.cell? ⟨rb, y * 3 + 1, none⟩ = some (.int .i64 (sy : Int)) := (unhide Hnro).cell (unhide HS24) m2
                          have j6 : wr.cell? ⟨b7, y * 3, none⟩ = some (.int .i64 (t : Int)) := hro7.cell (unhide HS24) m1
                          have j7 : wr.cell? ⟨b7, y * 3 + 1, none⟩ = some (.int .i64 (sy : Int)) := hro7.cell (unhide HS24) m2
                          have hyi : (y : Int) < (row.length : Int) := by omega
                          clear m1 m2 m3 hty hro7
                          go_upto_region 68 with fail
                          go_quiet (fail)
                          have HS25 := hide ((unhide HS24).drewN nq)
                          clear HS24 j1 j2 j3 j4 j5 j6 j7
                          generalize wr.drewN nq = w25 at HS25 ⊢
                          go_wp2
                          go_roundw
                          case rel => exact ⟨y + 1, by omega, by go_num, HS25⟩
                          case measure => simp [intOf]; omega
                        · go_wp2
                          go_roundw
                          case rel => exact ⟨x + 1, by omega, by go_num, HS24⟩
                          case measure => simp [intOf]; omega
                    | false =>
                      have t1 := hno hbt
                      rw [hbt] at gf
                      clear hyes hno hpp hbt
                      go_quiet (fail)
                      have HS22 := hide ((unhide HS21).drewN nq)
                      generalize wr.drewN nq = w22 at HS22 ⊢
                      clear HS21 g2 gf gm gn
                      have k1 : w22.cell? ⟨db, 1, none⟩ = some (.slice (some ⟨nbk, 0, none⟩) i cn) := (unhide HS22).cell (unhide Hd) rfl
                      have k2 : w22.cell? ⟨nbk, x, none⟩ = some (.slice (some ⟨rb, 0, none⟩) row.length rc) := (unhide Hnx1).cell (unhide HS22) (unhide Hnv)
                      have k3 : w22.cell? ⟨arb, x, none⟩ = some (.slice a7 row.length c7) := (unhide Hrv1).cell (unhide HS22) (unhide Hrv)
                      go_upto_region 63 with fail
                      go_quiet (fail)
                      have HS23 := hide ((unhide HS22).drewN nq)
                      clear HS22 k1 k2 k3
                      generalize w22.drewN nq = w23 at HS23 ⊢
                      have k3 : w23.cell? ⟨arb, x, none⟩ = some (.slice a7 row.length c7) := (unhide Hrv1).cell (unhide HS23) (unhide Hrv)
                      go_upto_region 66 with fail
                      clear k3
                      go_loopw [308] (fun v308 wr => ∃ (y : Nat), y ≤ row.length ∧ v308 = .int .i64 y ∧ Hid (St w wr HI FI)) (fun v308 _ => row.length - (intOf v308).toNat)
                      case atStart => exact ⟨0, Nat.zero_le _, rfl, HS23⟩
                      case round =>
                        clear HS23
                        obtain ⟨y, hyl, rfl, HS24⟩ := hrel
                        by_cases hlty : y < row.length
                        · obtain ⟨⟨t, sy⟩, hty⟩ : ∃ p, row[y]? = some p := ⟨_, List.getElem?_eq_getElem hlty⟩
                          obtain ⟨m1, m2, m3⟩ := rwCells_get _ _ _ _ hty
                          obtain ⟨b7, hb7, hro7⟩ := unhide Hro7 (by omega)
                          subst hb7
                          have j1 : wr.cell? ⟨db, 1, none⟩ = some (.slice (some ⟨nbk, 0, none⟩) i cn) := (unhide HS24).cell (unhide Hd) rfl
                          have j2 : wr.cell? ⟨nbk, x, none⟩ = some (.slice (some ⟨rb, 0, none⟩) row.length rc) := (unhide Hnx1).cell (unhide HS24) (unhide Hnv)
                          have j3 : wr.cell? ⟨arb, x, none⟩ = some (.slice (some ⟨b7, 0, none⟩) row.length c7) := (unhide Hrv1).cell (unhide HS24) (unhide Hrv)
                          have j4 : wr.cell? ⟨rb, y * 3, none⟩ = some (.int .i64 (t : Int)) := (unhide Hnro).cell (unhide HS24) m1
                          have j5 : wr.cell? ⟨rb, y * 3 + 1, none⟩ = some (.int .i64 (sy : Int)) := (unhide Hnro).cell (unhide HS24) m2
                          have j6 : wr.cell? ⟨b7, y * 3, none⟩ = some (.int .i64 (t : Int)) := hro7.cell (unhide HS24) m1
                          have j7 : wr.cell? ⟨b7, y * 3 + 1, none⟩ = some (.int .i64 (sy : Int)) := hro7.cell (unhide HS24) m2
                          have hyi : (y : Int) < (row.length : Int) := by omega
                          clear m1 m2 m3 hty hro7
                          go_upto_region 68 with fail
                          go_quiet (fail)
                          have HS25 := hide ((unhide HS24).drewN nq)
                          clear HS24 j1 j2 j3 j4 j5 j6 j7
                          generalize wr.drewN nq = w25 at HS25 ⊢
                          go_wp2
                          go_roundw
                          case rel => exact ⟨y + 1, by omega, by go_num, HS25⟩
                          case measure => simp [intOf]; omega
                        · go_wp2
                          go_roundw
                          case rel => exact ⟨x + 1, by omega, by go_num, HS24⟩
                          case measure => simp [intOf]; omega
                  · go_wp2
                    go_ret
                    exact ⟨rfl, (unhide HS21).below⟩
end Go.Proofs.Ybulkie
