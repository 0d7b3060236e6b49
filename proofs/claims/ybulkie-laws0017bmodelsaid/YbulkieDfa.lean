/-
  (*subsets).dfa (function 14), walked whole.
-/
import Derived.Test.YbulkieDst
namespace Go.Proofs.Ybulkie
open Go.RowKit Go.Maps

set_option maxRecDepth 100000 in
set_option maxHeartbeats 8000000 in
set_option linter.unusedSimpArgs false in
theorem dfa_any {N K : Nat} {E : List (Nat × Nat × Nat)} {w0 w : World} {H : Nat → Option (Nat × Obj)} {F : Nat → Option (Array Value × TypeId)} {sb nb : Nat} {s : Sv} (lim fin : Nat) (sa : Option Addr) (sc : Nat)
    (hC : Hid (Cls N E w0 w H F sb nb s [] 0 [])) (hT : Hid (Tg K H s (fun _ => []))) (hN0 : 0 < N) (hN : N ≤ 8) (hK0 : 0 < K) (hK : K ≤ 3) (hE : Hid (∀ e ∈ E, e.2.1 < N)) (hEs : Hid (∀ e ∈ E, e.2.2 ≤ K)) (hEl : E.length ≤ 256)
    (hsy : Hid (s.syms = .slice sa K sc)) (hlim : Hid (s.limit = .int .i64 (lim : Int))) (hl40 : lim ≤ 40) (hfin : fin < N)
    (fl : List Nat) (hfl : Hid (∀ q ∈ fl, q < N)) (hlen : fl.length ≤ 256) (fb0 c : Nat) (hfc : Hid (∀ j, j < fl.length → w.cell? ⟨fb0, j, none⟩ = some (.int .i64 (fl.getD j 0 : Nat))))
    (lb fb : Nat) (h22 : Hid (H 22 = some (lb, .cells #[.slice none 0 0] 88 (0, 0)))) (h23 : Hid (H 23 = none)) (h24 : Hid (H 24 = some (fb, .cells #[.int .i64 (fin : Int)] 3 (0, 0)))) :
    Calls Yba.prog 14 #[.pointer (some ⟨sb, 0, none⟩), .slice (some ⟨fb0, 0, none⟩) fl.length c, .func (.func 12) #[] #[.pointer (some ⟨lb, 0, none⟩), .pointer (some ⟨fb, 0, none⟩)]] w (DPost N K E (Plain.closeM N E (Plain.maskOf fl)) fin lim w0 H F sb nb lb fb (.slice sa K sc)) := by
  obtain ⟨iI, iiI, iiZ, iiS, iiB⟩ := info_parts info3
  obtain ⟨iS, siI, siZ, siS, siB⟩ := info_parts info78
  obtain ⟨iB, biI, biZ, biS, biB⟩ := info_parts info4
  have hmm := @run_makeMap Yba.prog
  have c1 : w.cell? ⟨sb, 1, none⟩ = some (.slice sa K sc) := by rw [← unhide hsy]; exact (unhide hC).st.cell (unhide hC).fields rfl
  go_enter Yba.func14, Yba.ntmps14
  go_upto_region 2 with fail
  clear c1
  obtain ⟨HA, hHA⟩ : ∃ HA, HA = upd (upd (upd H 18 (some (w.heap.size, .cells #[.slice sa K sc, .slice none 0 0, .slice none 0 0] 104 (0, 0)))) 19 none) 20 none := ⟨_, rfl⟩
  have HSA : Hid (St w0 (w.alloc (.cells #[.slice sa K sc, .slice none 0 0, .slice none 0 0] 104 (0, 0))) HA F) := hide (by
    rw [hHA]
    exact (((unhide hC).st.newAlloc (r := 18) (by decide) _).drop (r := 19) (by decide)).drop (r := 20) (by decide))
  have eA18 : Hid (HA 18 = some (w.heap.size, .cells #[.slice sa K sc, .slice none 0 0, .slice none 0 0] 104 (0, 0))) := hide (by rw [hHA, upd_other _ _ (by decide), upd_other _ _ (by decide), upd_same])
  have eA19 : Hid (HA 19 = none) := hide (by rw [hHA, upd_other _ _ (by decide), upd_same])
  have eA20 : Hid (HA 20 = none) := hide (by rw [hHA, upd_same])
  have eA : Hid (∀ r, r ≠ 18 → r ≠ 19 → r ≠ 20 → HA r = H r) := hide (fun r a b c => by rw [hHA, upd_other _ _ c, upd_other _ _ b, upd_other _ _ a])
  have HfA : Hid (∀ j, j < fl.length → (w.alloc (.cells #[.slice sa K sc, .slice none 0 0, .slice none 0 0] 104 (0, 0))).cell? ⟨fb0, j, none⟩ = some (.int .i64 (fl.getD j 0 : Nat))) := hide (fun j hj => kept_alloc (unhide hfc j hj))
  have HCA := hide ((unhide hC).move (unhide HSA) (fun r hr => unhide eA r (by omega) (by omega) (by omega)))
  generalize w.alloc (.cells #[.slice sa K sc, .slice none 0 0, .slice none 0 0] 104 (0, 0)) = wA at HSA HfA HCA ⊢
  generalize w.heap.size = db at eA18 ⊢
  clear hHA
  go_wp2_with fail
  refine (closure_any HCA hN0 hN fl hfl hlen fb0 c HfA (by omega) hE (hide (fun q => Nat.le_trans (Plain.movesQ_len E q) hEl))).mono ?_
  rintro e w2 ⟨rfl, H2, F2, s2, M2, hcls2, hfle2, hkeep2, hm2, hsy2, hli2, htg2, hrd2⟩
  obtain ⟨c0, hc0⟩ : ∃ c0, c0 = Plain.closeM N E (Plain.maskOf fl) := ⟨_, rfl⟩
  rw [← hc0] at hcls2 ⊢
  rw [if_neg (by simp), if_neg (by simp), List.nil_append, List.nil_append] at hcls2
  have ez : ((([] : List Nat).idxOf c0 : Nat) : Int) = 0 := rfl
  rw [ez]
  have HC2 := hide hcls2
  have Hk2 := hide hkeep2
  have Hf2 := hide hfle2
  have Hp2 := hide (And.intro hsy2 (And.intro hli2 (And.intro htg2 hrd2)))
  have Hm2 := hide hm2
  have Hc0 := hide hc0
  clear hcls2 hkeep2 hfle2 hsy2 hli2 htg2 hrd2 hm2 ez hc0 HCA HfA HSA
  go_upto_region 3 with fail
  have HS3 := hide ((unhide HC2).st.newAlloc (r := 16) (by decide) (.cells #[.int .i64 0] 3 (0, 0)))
  generalize w2.alloc (.cells #[.int .i64 0] 3 (0, 0)) = w3 at HS3 ⊢
  generalize w2.heap.size = ob at HS3 ⊢
  have HS4 := hide ((unhide HS3).newAlloc (r := 17) (by decide) (.map #[] 0))
  have c16 : (w3.alloc (.map #[] 0)).cell? ⟨ob, 0, none⟩ = some (.int .i64 0) := (unhide HS4).cell (r := 16) (by rw [upd_other _ _ (by decide), upd_same]) rfl
  have hM17 : MapV 3 ((upd (upd H2 16 (some (ob, .cells #[.int .i64 0] 3 (0, 0)))) 17 (some (w3.heap.size, .map #[] 0))) 17) w3.heap.size 0 (fun _ => none) := by rw [upd_same]; exact MapV.new 3 _
  obtain ⟨w5, hrun, h17, hst5, hmap5⟩ := hM17.store (unhide HS4) lawI Yba.underlying122 (key := .int .i64 0) (kl := .int .i64 0) (keyI 0 (by omega)) (keyI_key 0) (by unfold maxLen; omega) 0 (wf_small (by omega) (by omega))
  rw [upd_upd] at hst5
  go_upto_region 4 with fail
  clear hrun c16
  obtain ⟨nmb, hnmb⟩ : ∃ nmb, nmb = w3.heap.size := ⟨_, rfl⟩
  rw [← hnmb] at hmap5 ⊢
  obtain ⟨H5, hH5⟩ : ∃ H5, H5 = upd (upd H2 16 (some (ob, .cells #[.int .i64 0] 3 (0, 0)))) 17 h17 := ⟨_, rfl⟩
  rw [← hH5] at hst5
  have hbl : (Plain.bfs N K E c0 0).1.length = 1 := rfl
  have HD0 : Hid (Dst N K E c0 fin w0 w5 H5 F2 sb nb lb fb (.slice sa K sc) (.int .i64 (lim : Int)) db nmb 0 (.slice (some ⟨ob, 0, none⟩) 1 1) s2 M2 [.slice none 0 0] (.slice none 0 0) (.slice none 0 0)) := hide (by
    have hk := unhide Hk2
    have hp := unhide Hp2
    have hU : ∀ r, r ≠ 16 → r ≠ 17 → H5 r = H2 r := fun r a b => by rw [hH5, upd_other _ _ b, upd_other _ _ a]
    have hA := unhide eA
    refine ⟨(unhide HC2).move hst5 (fun r hr => hU r (by omega) (by omega)), ?_, ?_, ?_, ?_, ?_, ?_, ?_, ?_, by omega, by have := unhide Hm2; omega, ?_, ⟨hp.1.trans (unhide hsy), hp.2.1.trans (unhide hlim)⟩⟩
    · obtain ⟨⟨tb, tv, g1, g2⟩, n, xs, g3⟩ := unhide hT
      refine ⟨⟨tb, tv, by rw [hp.2.2.1]; exact g1, g2.congr (fun r h1 h2 => by rw [hU r (by omega) (by omega), hk r (by omega), hA r (by omega) (by omega) (by omega)]) (fun _ _ => rfl)⟩, n, xs, by rw [hp.2.2.2, hU 14 (by decide) (by decide), hk 14 (by decide), hA 14 (by decide) (by decide) (by decide)]; exact g3⟩
    · rw [hH5, upd_other _ _ (by decide), upd_same]
      exact ⟨rfl, Or.inr ⟨ob, 1, #[.int .i64 0], rfl, rfl, Nat.le_refl _, by unfold maxLen; omega, rfl, rfl⟩⟩
    · refine ⟨1, _, by rw [hH5, upd_same]; exact hmap5, fun x hx => ?_, Nat.le_refl _⟩
      rw [hbl]
      by_cases h0 : x = 0
      · subst h0; rfl
      · rw [if_neg (by omega), updL_other _ (by simp; omega)]
    · rw [hU 18 (by decide) (by decide), hk 18 (by decide)]; exact unhide eA18
    · refine ⟨[], by rw [hU 19 (by decide) (by decide), hk 19 (by decide), unhide eA19]; exact RowV.nil _ _, fun j row h => by cases h⟩
    · rw [hU 20 (by decide) (by decide), hk 20 (by decide), unhide eA20]; exact RowV.nil _ _
    · refine ⟨none, 0, [], by rw [hU 22 (by decide) (by decide), hk 22 (by decide), hA 22 (by decide) (by decide) (by decide)]; exact unhide h22, by rw [hU 23 (by decide) (by decide), hk 23 (by decide), hA 23 (by decide) (by decide) (by decide), unhide h23]; exact RowV.nil _ _, rfl, fun i m h => by cases h⟩
    · rw [hU 24 (by decide) (by decide), hk 24 (by decide), hA 24 (by decide) (by decide) (by decide)]; exact unhide h24
    · intro x _ hx
      rw [hbl] at hx
      have : x = 0 := by omega
      subst this
      rfl)
  have HK0 : Hid (∀ r, 24 < r → r ≠ 40 → H5 r = H r) := hide (fun r h1 h2 => by rw [hH5, upd_other _ _ (by omega), upd_other _ _ (by omega), unhide Hk2 r (by omega), unhide eA r (by omega) (by omega) (by omega)])
  clear hmap5 hst5 hnmb hH5 HS3 HS4 hM17 hbl
  have hgood : Hid (∀ i, (Plain.bfs N K E c0 i).1.length ≤ 256) := hide (fun i => Good.le256 (Plain.bfs_good (unhide hE) (by rw [unhide Hc0]; exact Plain.closeM_lt (unhide hE) (Plain.maskOf_lt (unhide hfl))) i) hN)
  go_wp2
  go_loopw [9, 11] (fun v9 v11 wr => ∃ (i : Nat) (ao : Option Addr) (co : Nat) (H' : Nat → Option (Nat × Obj)) (F' : Nat → Option (Array Value × TypeId)) (s' : Sv) (M' : Int) (ms' : List Value) (dn df : Value), v11 = .int .i64 i ∧ v9 = .slice ao (Plain.bfs N K E c0 i).1.length co ∧
    Hid (Dst N K E c0 fin w0 wr H' F' sb nb lb fb (.slice sa K sc) (.int .i64 (lim : Int)) db nmb i (.slice ao (Plain.bfs N K E c0 i).1.length co) s' M' ms' dn df) ∧ Hid (∀ j, j < i → j < (Plain.bfs N K E c0 j).1.length) ∧ Hid (FLe F F') ∧ Hid (∀ r, 24 < r → r ≠ 40 → H' r = H r) ∧ (0 < i → (Plain.bfs N K E c0 (i - 1)).1.length ≤ lim)) (fun _ v11 _ => 256 - (intOf v11).toNat)
  case atStart => exact ⟨0, _, _, H5, F2, s2, M2, _, _, _, rfl, rfl, HD0, hide (fun j hj => by omega), Hf2, HK0, fun h => by omega⟩
  case round =>
    clear HD0 HK0
    obtain ⟨i, ao, co, H', F', s', M', ms', dn, df, rfl, rfl, HD, HJ, HF, HKp, hlast⟩ := hrel
    have hLl := unhide hgood i
    by_cases hlt : i < (Plain.bfs N K E c0 i).1.length
    · have c2 : wr.cell? ⟨sb, 2, none⟩ = some (.int .i64 (lim : Int)) := by rw [← (unhide HD).pass.2]; exact (unhide HD).cls.st.cell (unhide HD).cls.fields rfl
      by_cases hov : lim < (Plain.bfs N K E c0 i).1.length
      · go_wp2
        go_ret2
        rw [← unhide Hc0]
        exact Or.inl ⟨rfl, i, fun j hj => by
          by_cases e : j = i
          · subst e; exact hlt
          · exact unhide HJ j (by omega), hov, H', F', (unhide HD).cls.st, unhide HF, unhide HKp⟩
      · obtain ⟨bo, hbo⟩ := (unhide HD).ord.head (by omega)
        subst hbo
        have co1 : wr.cell? ⟨bo, i, none⟩ = some (.int .i64 (i : Int)) := (unhide HD).ord.cell (unhide HD).cls.st (by simp [ints, hlt])
        obtain ⟨m, hm⟩ : ∃ m, (Plain.bfs N K E c0 i).1[i]? = some m := ⟨_, List.getElem?_eq_getElem hlt⟩
        have hgd : (Plain.bfs N K E c0 i).1.getD i 0 = m := by simp [List.getD, hm]
        have hb1 : Hid ((Plain.bfs N K E c0 (i + 1)).1 = (Plain.rowTo N E (Plain.bfs N K E c0 i).1 m K).1) := hide (by rw [← hgd]; rfl)
        have hb2 : Hid ((Plain.bfs N K E c0 (i + 1)).2 = (Plain.bfs N K E c0 i).2 ++ [(Plain.rowTo N E (Plain.bfs N K E c0 i).1 m K).2]) := hide (by rw [← hgd]; rfl)
        have hMl : M' ≤ 90000 := by have := (unhide HD).mle; omega
        have hii : (i : Int) < ((Plain.bfs N K E c0 i).1.length : Int) := by omega
        have Hm := hide hm
        have HCx := hide (unhide HD).cls
        have HTx := hide (unhide HD).tg
        have Hnx := hide (unhide HD).nils
        clear hm hgd
        go_wp2_with fail
        refine (moves_any HCx HTx hN0 hN hK0 hK hE hEs hEl hMl i m Hm Hnx).mono ?_
        rintro e w6 ⟨rv, H6, F6, s6, M6, ms6, rfl, hcls6, htg6, hro6, hfle6, hkeep6, hM6, hnil6, hsy6, hli6⟩
        have hrl : (Plain.rowTo N E (Plain.bfs N K E c0 i).1 m K).2.length ≤ K := Plain.rowTo_row_len N E _ m K
        have HC6 := hide hcls6
        have HT6 := hide htg6
        have Hro6 := hide hro6
        have Hf6 := hide hfle6
        have Hk6 := hide hkeep6
        have HM6 := hide hM6
        have Hn6 := hide hnil6
        have Hp6 := hide (And.intro hsy6 hli6)
        clear hcls6 htg6 hro6 hfle6 hkeep6 hM6 hnil6 hsy6 hli6 HCx HTx Hnx co1 c2
        obtain ⟨row, hrow⟩ : ∃ row, row = (Plain.rowTo N E (Plain.bfs N K E c0 i).1 m K).2 := ⟨_, rfl⟩
        rw [← hrow] at Hro6 hrl hb2
        have Hrow := hide hrow
        clear hrow
        go_wp2_with fail
        refine (cloneM_any (hide (unhide HC6).st) rv row.length (rwCells row) Hro6 (by omega) (hide (rwCells_one row))).mono ?_
        rintro e w7 ⟨ar, cr, h21, rfl, HS7, HR7, hnn7⟩
        obtain ⟨HX, hHX⟩ : ∃ HX, HX = upd H6 21 h21 := ⟨_, rfl⟩
        obtain ⟨L0, hL0⟩ : ∃ L0, L0 = (Plain.bfs N K E c0 i).1.length := ⟨_, rfl⟩
        have HL0 := hide hL0
        have eX21 : Hid (RowV (HX 21) 81 3 (.slice ar row.length cr) row.length (rwCells row)) := hide (by rw [hHX, upd_same]; exact unhide HR7)
        have eX : Hid (∀ r, r ≠ 21 → HX r = H6 r) := hide (fun r h => by rw [hHX, upd_other _ _ h])
        have hgr : Hid (∀ (j t y : Nat), row[j]? = some (t, y) → t ≤ Plain.grow L0 (row.take j)) := hide (by rw [hL0, unhide Hrow]; exact (Plain.rowTo_grow N E _ m K).2)
        have HL : Hid (Lst w0 w7 HX F6 nmb (Plain.grow L0 (row.take 0)) (.slice (some ⟨bo, 0, none⟩) L0 co) HX) := hide (by
          have h16 : HX 16 = H' 16 := by rw [hHX, upd_other _ _ (by decide), unhide Hk6 16 (by decide) (by decide)]
          have h17' : HX 17 = H' 17 := by rw [hHX, upd_other _ _ (by decide), unhide Hk6 17 (by decide) (by decide)]
          refine ⟨by rw [hHX]; exact unhide HS7, fun _ _ _ _ => rfl, ?_, ?_⟩
          · rw [h16]
            show RowV (H' 16) 3 1 (.slice (some ⟨bo, 0, none⟩) L0 co) L0 (ints (List.range L0))
            rw [hL0]; exact (unhide HD).ord
          · rw [h17']
            show ∃ n g, MapV 3 (H' 17) nmb n g ∧ (∀ x : Nat, x ≤ 1000 → g (.int .i64 (x : Int)) = if x < L0 then some (x : Int) else none) ∧ n ≤ L0
            rw [hL0]; exact (unhide HD).num)
        rw [← hL0]
        clear HS7 HR7 hHX hL0
        go_upto_region 10 with fail
        go_wp2
        go_loopw [9, 54] (fun v9 v54 wr => ∃ (j : Nat) (ao : Option Addr) (co : Nat) (HI : Nat → Option (Nat × Obj)), j ≤ row.length ∧ v54 = .int .i64 j ∧ v9 = .slice ao (Plain.grow L0 (row.take j)) co ∧ Hid (Lst w0 wr HX F6 nmb (Plain.grow L0 (row.take j)) (.slice ao (Plain.grow L0 (row.take j)) co) HI)) (fun _ v54 _ => row.length - (intOf v54).toNat)
        case atStart => exact ⟨0, _, _, HX, Nat.zero_le _, rfl, rfl, HL⟩
        case round =>
          clear HL
          obtain ⟨j, ao, co', HI, hj, rfl, rfl, HL⟩ := hrel
          by_cases hltj : j < row.length
          · obtain ⟨rb, hrb⟩ := (unhide eX21).head (by omega)
            subst hrb
            obtain ⟨⟨t, y⟩, hty⟩ : ∃ p, row[j]? = some p := ⟨_, List.getElem?_eq_getElem hltj⟩
            obtain ⟨m1, m2, m3⟩ := rwCells_get _ _ _ _ hty
            have hr21 : RowV (HI 21) 81 3 (.slice (some ⟨rb, 0, none⟩) row.length cr) row.length (rwCells row) := by rw [(unhide HL).keep 21 (by decide) (by decide) (by decide)]; exact unhide eX21
            have k1 : wr.cell? ⟨rb, j * 3, none⟩ = some (.int .i64 (t : Int)) := hr21.cell (unhide HL).st m1
            have k2 : wr.cell? ⟨rb, j * 3 + 1, none⟩ = some (.int .i64 (y : Int)) := hr21.cell (unhide HL).st m2
            have k3 : wr.cell? ⟨rb, j * 3 + 2, none⟩ = some (.int .u8 0) := hr21.cell (unhide HL).st m3
            have htg := unhide hgr j t y hty
            have hsn := take_snoc hty
            have HLm := hide ((unhide HL).newm ((unhide HL).st.newAlloc (r := 40) (by decide) (.cells #[.int .i64 (t : Int), .int .i64 (y : Int), .int .u8 0] 81 (0, 0))))
            have Hr21 := hide hr21
            have Hm1 := hide m1
            have Hsn := hide hsn
            clear m1 m2 m3 hr21 hty hsn
            go_upto_region 13 with fail
            generalize wr.alloc (.cells #[.int .i64 (t : Int), .int .i64 (y : Int), .int .u8 0] 81 (0, 0)) = wa at HLm ⊢
            generalize wr.heap.size = mvb at HLm ⊢
            clear k1 k2 k3 HL
            obtain ⟨HM, hHM⟩ : ∃ HM, HM = upd HI 40 (some (mvb, .cells #[.int .i64 (t : Int), .int .i64 (y : Int), .int .u8 0] 81 (0, 0))) := ⟨_, rfl⟩
            have e40 : Hid (HM 40 = some (mvb, .cells #[.int .i64 (t : Int), .int .i64 (y : Int), .int .u8 0] 81 (0, 0))) := hide (by rw [hHM, upd_same])
            have e21 : Hid (RowV (HM 21) 81 3 (.slice (some ⟨rb, 0, none⟩) row.length cr) row.length (rwCells row)) := hide (by rw [hHM, upd_other _ _ (by decide)]; exact unhide Hr21)
            rw [← hHM] at HLm
            clear hHM Hr21
            obtain ⟨G, hG⟩ : ∃ G, G = Plain.grow L0 (row.take j) := ⟨_, rfl⟩
            rw [← hG] at HLm htg ⊢
            have hGl : G ≤ 300 := by
              have h1 := Plain.grow_add L0 (row.take j)
              have h2 : (row.take j).length ≤ j := by rw [List.length_take]; omega
              have h3 := unhide HL0
              omega
            have HG := hide hG
            clear hG
            obtain ⟨mn, g, hmap, hgv, hmn⟩ := (unhide HLm).num
            have hlk := hmap.look (unhide HLm).st lawI Yba.underlying122 (keyI t (by omega))
            rw [hgv t (by omega)] at hlk
            have m0 : wa.cell? ⟨mvb, 0, none⟩ = some (.int .i64 (t : Int)) := (unhide HLm).st.cell (unhide e40) rfl
            obtain ⟨cur, hcur, hsame⟩ := (unhide e21).same (unhide Hm1)
            have hjr : (j : Int) < (row.length : Int) := by omega
            by_cases htG : t < G
            · rw [if_pos htG] at hlk
              have k1 : wa.cell? ⟨rb, j * 3, none⟩ = some (.int .i64 (t : Int)) := (unhide e21).cell (unhide HLm).st (unhide Hm1)
              have z1 : wa.frozen? ⟨rb, j * 3, none⟩ = false := (unhide HLm).st.frozen hcur (j * 3)
              have HSn := hide ((unhide HLm).st.set hcur (j * 3) (.int .i64 (t : Int)))
              rw [hsame, upd_id _ hcur] at HSn
              have hgs : Hid (Plain.grow L0 (row.take (j + 1)) = G) := hide (by rw [unhide Hsn, Plain.grow_snoc, ← unhide HG, if_pos htG])
              clear hmap hgv
              go_wp2
              go_roundw
              case rel => exact ⟨j + 1, ao, co', HM, by omega, by go_num, by rw [unhide hgs], hide (by rw [unhide hgs]; exact ⟨unhide HSn, (unhide HLm).keep, (unhide HLm).ord, (unhide HLm).num⟩)⟩
              case measure => simp [intOf]; omega
            · have htE : t = G := by omega
              subst htE
              rw [if_neg htG] at hlk
              obtain ⟨wb, hrun, h17', hst17, hmap17⟩ := hmap.store (unhide HLm).st lawI Yba.underlying122 (keyI t (by omega)) (keyI_key _) (by unfold maxLen; omega) (t : Int) (wf_small (by omega) (by omega))
              have HS17 := hide hst17
              have m0b : wb.cell? ⟨mvb, 0, none⟩ = some (.int .i64 (t : Int)) := hst17.cell (r := 40) (by rw [upd_other _ _ (by decide)]; exact unhide e40) rfl
              have Hmap17 := hide hmap17
              have Hgv := hide hgv
              have Hcur := hide hcur
              have Hsame := hide hsame
              have HR16 : Hid (RowV ((upd HM 17 h17') 16) 3 1 (.slice ao t co') t (ints (List.range t))) := hide (by rw [upd_other _ _ (by decide)]; exact (unhide HLm).ord)
              have HF21 : Hid (∀ h16, (upd (upd HM 17 h17') 16 h16) 21 = some (rb, .cells cur 81 (0, 0))) := hide (fun h16 => by rw [upd_other _ _ (by decide), upd_other _ _ (by decide)]; exact hcur)
              have HR21 : Hid (∀ h16, RowV ((upd (upd HM 17 h17') 16 h16) 21) 81 3 (.slice (some ⟨rb, 0, none⟩) row.length cr) row.length (rwCells row)) := hide (fun h16 => by rw [upd_other _ _ (by decide), upd_other _ _ (by decide)]; exact unhide e21)
              clear hst17 hmap17 hgv hcur hsame hmap
              go_upto_region 18 with (at_builtin; refine wpList_append_st (w0 := w0) (H := upd HM 17 h17') (F := F6) _ rfl (.tmp 74) (.tmp 77) 89 rfl 16 (by decide) 3 iI (.int .i64 0) 1 8 Yba.underlying89 iiI iiZ iiS iiB rfl (by decide) (.slice ao t co') t (ints (List.range t)) rfl ((unhide HS17).alloc _) (unhide HR16) ⟨wb.heap.size, 0, none⟩ 1 1 [.int .i64 (t : Int)] rfl rfl (cell_one_new _ _ _) (one_int _) (by unfold maxLen; omega) (by omega) ?_; intro v16 wd h16 hst16 hrow16 hnil16; obtain ⟨a16, d16, hv16⟩ := (unhide hrow16).sl; subst hv16)
              clear hrun hlk m0 m0b HS17 HR16 hnil16
              have k1 : wd.cell? ⟨rb, j * 3, none⟩ = some (.int .i64 (t : Int)) := (unhide HR21 h16).cell (unhide hst16) (unhide Hm1)
              have z1 : wd.frozen? ⟨rb, j * 3, none⟩ = false := (unhide hst16).frozen (unhide HF21 h16) (j * 3)
              have HSn := hide ((unhide hst16).set (unhide HF21 h16) (j * 3) (.int .i64 (t : Int)))
              rw [unhide Hsame, upd_id _ (unhide HF21 h16)] at HSn
              have hgs : Hid (Plain.grow L0 (row.take (j + 1)) = t + 1) := hide (by rw [unhide Hsn, Plain.grow_snoc, ← unhide HG, if_neg (by simp)])
              have HLn : Hid (Lst w0 (wd.setCell ⟨rb, j * 3, none⟩ (.int .i64 (t : Int))) HX F6 nmb (t + 1) (.slice a16 (t + 1) d16) (upd (upd HM 17 h17') 16 h16)) := hide (by
                refine ⟨unhide HSn, fun r r16 r17 r40 => by rw [upd_other _ _ r16, upd_other _ _ r17]; exact (unhide HLm).keep r r16 r17 r40, ?_, ?_⟩
                · rw [upd_same, List.range_succ, ints_snoc]; exact unhide hrow16
                · refine ⟨mn + 1, _, by rw [upd_other _ _ (by decide), upd_same]; exact unhide Hmap17, fun x hx => ?_, by omega⟩
                  by_cases hxt : x = t
                  · subst hxt
                    rw [updL_same _ (keyI_key _), if_pos (by omega)]
                  · rw [updL_other _ (by simp; omega), unhide Hgv x hx]
                    by_cases hxl : x < t
                    · rw [if_pos hxl, if_pos (by omega)]
                    · rw [if_neg hxl, if_neg (by omega)])
              clear hst16 hrow16
              go_wp2
              go_roundw
              case rel => exact ⟨j + 1, a16, d16, _, by omega, by go_num, by rw [unhide hgs], hide (by rw [unhide hgs]; exact unhide HLn)⟩
              case measure => simp [intOf]; omega
          · have hjn : j = row.length := by omega
            subst hjn
            go_upto_region 20 with fail
            rw [List.take_length] at HL
            have hgl : Hid (Plain.grow L0 (row.take row.length) = (Plain.bfs N K E c0 (i + 1)).1.length) := hide (by rw [List.take_length, unhide hb1, unhide HL0, unhide Hrow]; exact (Plain.rowTo_grow N E _ m K).1)
            obtain ⟨L1, hL1⟩ : ∃ L1, L1 = (Plain.bfs N K E c0 (i + 1)).1.length := ⟨_, rfl⟩
            have HL1 := hide hL1
            have hg1 : Plain.grow L0 row = L1 := by have := unhide hgl; rw [List.take_length] at this; rw [hL1, this]
            rw [hg1] at HL
            have hLL : (Plain.bfs N K E c0 i).1.length ≤ L1 := by rw [hL1]; exact (Plain.bfs_prefix N K E c0 i).length_le
            have hL1l : L1 ≤ 256 := by rw [hL1]; exact unhide hgood (i + 1)
            have hiL : (i : Int) < (L1 : Int) := by omega
            rw [List.take_length, hg1]
            clear hL1 hg1
            obtain ⟨F7, hst7, hfle7, hro7⟩ := (show RowV (HI 21) 81 3 (.slice ar row.length cr) row.length (rwCells row) by rw [(unhide HL).keep 21 (by decide) (by decide) (by decide)]; exact unhide eX21).freeze (unhide HL).st hnn7
            obtain ⟨HZ, hHZ⟩ : ∃ HZ, HZ = upd HI 21 none := ⟨_, rfl⟩
            rw [← hHZ] at hst7
            have hZ : Hid (∀ r, r ≠ 16 → r ≠ 17 → r ≠ 21 → r ≠ 40 → HZ r = H6 r) := hide (fun r h1 h2 h3 h4 => by rw [hHZ, upd_other _ _ h3, (unhide HL).keep r h1 h2 h4, unhide eX r h3])
            have hZ' : Hid (∀ r, 17 < r → r ≠ 21 → r ≠ 40 → HZ r = H' r) := hide (fun r h1 h2 h3 => by rw [unhide hZ r (by omega) (by omega) h2 h3]; exact unhide Hk6 r (by omega) h3)
            have hZ16 : Hid (HZ 16 = HI 16 ∧ HZ 17 = HI 17) := hide ⟨by rw [hHZ, upd_other _ _ (by decide)], by rw [hHZ, upd_other _ _ (by decide)]⟩
            have HS7 := hide hst7
            have Hf7 := hide hfle7
            have Hro7 := hide hro7
            clear hHZ hst7 hfle7 hro7
            have e18 : Hid (HZ 18 = some (db, .cells #[.slice sa K sc, dn, df] 104 (0, 0))) := hide (by rw [unhide hZ' 18 (by decide) (by decide) (by decide)]; exact (unhide HD).d)
            obtain ⟨nvs, hnvs, hnr⟩ := (unhide HD).next
            have Hnr := hide hnr
            have Hnx : Hid (RowV (HZ 19) 78 1 dn i nvs) := hide (by rw [unhide hZ' 19 (by decide) (by decide) (by decide)]; exact hnvs)
            obtain ⟨an, cn, hdn⟩ := hnvs.sl
            obtain ⟨af, cf, hdf⟩ := (unhide HD).final.sl
            subst hdn hdf
            clear hnvs hnr
            have c1 : wr.cell? ⟨db, 1, none⟩ = some (.slice an i cn) := (unhide HS7).cell (unhide e18) rfl
            go_upto_region 21 with (at_builtin; refine wpList_append_st (w0 := w0) (H := HZ) (F := F7) _ rfl (.tmp 89) (.tmp 91) 75 rfl 19 (by decide) 78 iS (.slice none 0 0) 1 24 Yba.underlying75 siI siZ siS siB rfl (by decide) (.slice an i cn) i nvs rfl ((unhide HS7).alloc _) (unhide Hnx) ⟨wr.heap.size, 0, none⟩ 1 1 [.slice ar row.length cr] rfl rfl (cell_one_new _ _ _) (one_slice _ _ _) (by unfold maxLen; omega) (by omega) ?_; intro v19 w8 h19 hst19 hrow19 hnil19; obtain ⟨a19, d19, hv19⟩ := (unhide hrow19).sl; subst hv19; have c1b : w8.cell? ⟨db, 1, none⟩ = some (.slice an i cn) := (unhide hst19).cell (r := 18) ((upd_other _ _ (by decide)).trans (unhide e18)) rfl; have z1b : w8.frozen? ⟨db, 1, none⟩ = false := (unhide hst19).frozen (r := 18) ((upd_other _ _ (by decide)).trans (unhide e18)) 1)
            clear c1 c1b z1b hnil19
            obtain ⟨HE, hHE⟩ : ∃ HE, HE = upd (upd HZ 19 h19) 18 (some (db, .cells #[.slice sa K sc, .slice a19 (i + 1) d19, .slice af i cf] 104 (0, 0))) := ⟨_, rfl⟩
            have HS9 : Hid (St w0 (w8.setCell ⟨db, 1, none⟩ (.slice a19 (i + 1) d19)) HE F7) := hide (by rw [hHE]; exact (unhide hst19).set (r := 18) ((upd_other _ _ (by decide)).trans (unhide e18)) 1 _)
            have eE18 : Hid (HE 18 = some (db, .cells #[.slice sa K sc, .slice a19 (i + 1) d19, .slice af i cf] 104 (0, 0))) := hide (by rw [hHE, upd_same])
            have eE19 : Hid (RowV (HE 19) 78 1 (.slice a19 (i + 1) d19) (i + 1) (nvs ++ [.slice ar row.length cr])) := hide (by rw [hHE, upd_other _ _ (by decide), upd_same]; exact unhide hrow19)
            have eE : Hid (∀ r, r ≠ 18 → r ≠ 19 → HE r = HZ r) := hide (fun r h1 h2 => by rw [hHE, upd_other _ _ h1, upd_other _ _ h2])
            generalize w8.setCell ⟨db, 1, none⟩ (.slice a19 (i + 1) d19) = w9 at HS9 ⊢
            clear hHE hst19 hrow19 HS7 Hnx e18
            have HC9 : Hid (Cls N E w0 w9 HE F7 sb nb s6 (Plain.bfs N K E c0 (i + 1)).1 M6 ms6) := hide (by rw [unhide hb1]; exact (unhide HC6).moveF (unhide HS9) (unhide Hf7) (fun r hr => by rw [unhide eE r (by omega) (by omega), unhide hZ r (by omega) (by omega) (by omega) (by omega)]))
            obtain ⟨vs, hsets, hsis⟩ := (unhide HC9).sets
            obtain ⟨a6, d6, hv6⟩ := hsets.sl
            rw [hv6] at hsets
            obtain ⟨b6, hb6⟩ := hsets.head (by have := unhide HL1; omega)
            subst hb6
            rw [← unhide HL1] at hv6 hsets
            have hm1 : (Plain.bfs N K E c0 (i + 1)).1[i]? = some m := get_prefix (Plain.bfs_prefix N K E c0 i) (unhide Hm)
            obtain ⟨aS, cS, hS1, HSr⟩ := ro_sets hsis hm1
            obtain ⟨bo', hbo'⟩ := (unhide HL).ord.head (by omega)
            subst hbo'
            have Hord : Hid (RowV (HE 16) 3 1 (.slice (some ⟨bo', 0, none⟩) L1 co') L1 (ints (List.range L1))) := hide (by rw [unhide eE 16 (by decide) (by decide), (unhide hZ16).1]; exact (unhide HL).ord)
            have Hnum : Hid (∃ n g, MapV 3 (HE 17) nmb n g ∧ (∀ x : Nat, x ≤ 1000 → g (.int .i64 (x : Int)) = if x < L1 then some (x : Int) else none) ∧ n ≤ L1) := hide (by rw [unhide eE 17 (by decide) (by decide), (unhide hZ16).2]; exact (unhide HL).num)
            have g4 : w9.cell? ⟨sb, 4, none⟩ = some (.slice (some ⟨b6, 0, none⟩) L1 d6) := by rw [← hv6]; exact (unhide HC9).st.cell (unhide HC9).fields rfl
            have g6 : w9.cell? ⟨b6, i, none⟩ = some (.slice aS (Plain.elems N m).length cS) := hsets.cell (unhide HC9).st hS1
            have g2 : w9.cell? ⟨db, 2, none⟩ = some (.slice af i cf) := (unhide HS9).cell (unhide eE18) rfl
            have gi : w9.cell? ⟨bo', i, none⟩ = some (.int .i64 (i : Int)) := (unhide Hord).cell (unhide HS9) (range_get (by omega))
            have Hv6 := hide hv6
            have Hsets := hide hsets
            have HS1 := hide hS1
            have Hm1 := hide hm1
            clear hv6 hsets hS1 hsis hm1 HL
            have hkF : Hid (∀ wy HY FY, St w0 wy HY FY → HY 18 = HE 18 → HY 1 = HE 1 → HY 16 = HE 16 → HY 6 = HE 6 → (wy.cell? ⟨db, 2, none⟩ = some (.slice af i cf) ∧ wy.cell? ⟨sb, 4, none⟩ = some (.slice (some ⟨b6, 0, none⟩) L1 d6) ∧ wy.cell? ⟨bo', i, none⟩ = some (.int .i64 (i : Int)) ∧ wy.cell? ⟨b6, i, none⟩ = some (.slice aS (Plain.elems N m).length cS))) := hide (fun wy HY FY hst q18 q1 q16 q6 => ⟨hst.cell (q18.trans (unhide eE18)) rfl, by rw [← unhide Hv6]; exact hst.cell (q1.trans (unhide HC9).fields) rfl, (show RowV (HY 16) 3 1 (.slice (some ⟨bo', 0, none⟩) L1 co') L1 (ints (List.range L1)) by rw [q16]; exact unhide Hord).cell hst (range_get (by omega)), (show RowV (HY 6) 89 1 (.slice (some ⟨b6, 0, none⟩) L1 d6) L1 vs by rw [q6]; exact unhide Hsets).cell hst (unhide HS1)⟩)
            obtain ⟨al, cl, lvs, hl22, hl23, hlS⟩ := (unhide HD).log
            have Hl22 : Hid (HE 22 = some (lb, .cells #[.slice al i cl] 88 (0, 0))) := hide (by rw [unhide eE 22 (by decide) (by decide), unhide hZ' 22 (by decide) (by decide) (by decide)]; exact hl22)
            have Hl23 : Hid (RowV (HE 23) 89 1 (.slice al i cl) i lvs) := hide (by rw [unhide eE 23 (by decide) (by decide), unhide hZ' 23 (by decide) (by decide) (by decide)]; exact hl23)
            have Hl24 : Hid (HE 24 = some (fb, .cells #[.int .i64 (fin : Int)] 3 (0, 0))) := hide (by rw [unhide eE 24 (by decide) (by decide), unhide hZ' 24 (by decide) (by decide) (by decide)]; exact (unhide HD).fin)
            have HlS := hide hlS
            have Hfn : Hid (RowV (HE 20) 4 1 (.slice af i cf) i (((Plain.bfs N K E c0 i).1.take i).map (fun m => Value.bool (m.testBit fin)))) := hide (by rw [unhide eE 20 (by decide) (by decide), unhide hZ' 20 (by decide) (by decide) (by decide)]; exact (unhide HD).final)
            clear hl22 hl23 hlS
            have hel : (Plain.elems N m).length ≤ 256 := by have := elems_len (N := N) (X := m); omega
            refine wp_region_K (fun w' => w'.cell? ⟨db, 2, none⟩ = some (.slice af i cf) ∧ w'.cell? ⟨sb, 4, none⟩ = some (.slice (some ⟨b6, 0, none⟩) L1 d6) ∧ w'.cell? ⟨bo', i, none⟩ = some (.int .i64 (i : Int)) ∧ w'.cell? ⟨b6, i, none⟩ = some (.slice aS (Plain.elems N m).length cS)) 21 (by kernel_rfl) ?_
            have hS0 : w9.drew.cell? ⟨db, 2, none⟩ = some (.slice af i cf) ∧ w9.drew.cell? ⟨sb, 4, none⟩ = some (.slice (some ⟨b6, 0, none⟩) L1 d6) ∧ w9.drew.cell? ⟨bo', i, none⟩ = some (.int .i64 (i : Int)) ∧ w9.drew.cell? ⟨b6, i, none⟩ = some (.slice aS (Plain.elems N m).length cS) := ⟨g2, g4, gi, g6⟩
            refine wpAnyK_take (i := 0) (v := ?v0x) rfl (by kernel_rfl) (by kernel_rfl) (by kernel_rfl) (by kernel_rfl) (fun _ _ _ h => h) (Or.inl ⟨by rfl, ?hy0x⟩) hS0 ?rest0x
            case hy0x => (intro w hSw; go_simp; try with_reducible rfl)
            try simp only [Act.put, List.setIfInBounds_toArray, List.set_cons_zero, List.set_cons_succ]
            refine wpAnyK_take (i := 1) (v := ?v1x) rfl (by kernel_rfl) (by kernel_rfl) (by kernel_rfl) (by kernel_rfl) (fun _ _ _ h => h) (Or.inl ⟨by rfl, ?hy1x⟩) hS0 ?rest1x
            case hy1x => (intro w hSw; go_simp; try with_reducible rfl)
            try simp only [Act.put, List.setIfInBounds_toArray, List.set_cons_zero, List.set_cons_succ]
            refine wpAnyK_take (i := 2) (v := ?v2x) rfl (by kernel_rfl) (by kernel_rfl) (by kernel_rfl) (by kernel_rfl) (fun _ _ _ h => h) (Or.inl ⟨by rfl, ?hy2x⟩) hS0 ?rest2x
            case hy2x => (intro w hSw; go_simp; try with_reducible rfl)
            try simp only [Act.put, List.setIfInBounds_toArray, List.set_cons_zero, List.set_cons_succ]
            refine wpAnyK_take (i := 3) (v := ?v3x) rfl (by kernel_rfl) (by kernel_rfl) (by kernel_rfl) (by kernel_rfl) (fun _ _ _ h => h) (Or.inl ⟨by rfl, ?hy3x⟩) hS0 ?rest3x
            case hy3x => (intro w hSw; go_simp; try with_reducible rfl)
            try simp only [Act.put, List.setIfInBounds_toArray, List.set_cons_zero, List.set_cons_succ]
            refine wpAnyK_take (i := 4) (v := ?v4x) rfl (by kernel_rfl) (by kernel_rfl) (by kernel_rfl) (by kernel_rfl) (fun _ _ _ h => h) (Or.inl ⟨by rfl, ?hy4x⟩) hS0 ?rest4x
            case hy4x => (intro w hSw; go_simp; try with_reducible rfl)
            try simp only [Act.put, List.setIfInBounds_toArray, List.set_cons_zero, List.set_cons_succ]
            refine wpAnyK_take (i := 5) (v := ?v5x) rfl (by kernel_rfl) (by kernel_rfl) (by kernel_rfl) (by kernel_rfl) (fun _ _ _ h => h) (Or.inl ⟨by rfl, ?hy5x⟩) hS0 ?rest5x
            case hy5x => (intro w hSw; go_simp; try with_reducible rfl)
            try simp only [Act.put, List.setIfInBounds_toArray, List.set_cons_zero, List.set_cons_succ]
            refine wpAnyK_take (i := 6) (v := ?v6x) rfl (by kernel_rfl) (by kernel_rfl) (by kernel_rfl) (by kernel_rfl) (fun _ _ _ h => h) (Or.inl ⟨by rfl, ?hy6x⟩) hS0 ?rest6x
            case hy6x => (intro w hSw; go_simp; try with_reducible rfl)
            try simp only [Act.put, List.setIfInBounds_toArray, List.set_cons_zero, List.set_cons_succ]
            refine wpAnyK_take (i := 7) (v := ?v7x) rfl (by kernel_rfl) (by kernel_rfl) (by kernel_rfl) (by kernel_rfl) (fun _ _ _ h => h) (Or.inl ⟨by rfl, ?hy7x⟩) hS0 ?rest7x
            case hy7x => (intro w hSw; go_simp; try with_reducible rfl)
            try simp only [Act.put, List.setIfInBounds_toArray, List.set_cons_zero, List.set_cons_succ]
            refine wpAnyK_take (i := 8) (v := ?v8x) rfl (by kernel_rfl) (by kernel_rfl) (by kernel_rfl) (by kernel_rfl) (fun _ _ _ h => h) (Or.inl ⟨by rfl, ?hy8x⟩) hS0 ?rest8x
            case hy8x => (intro w hSw; go_simp; try with_reducible rfl)
            try simp only [Act.put, List.setIfInBounds_toArray, List.set_cons_zero, List.set_cons_succ]
            refine wpAnyK_take (i := 9) (v := ?v9x) rfl (by kernel_rfl) (by kernel_rfl) (by kernel_rfl) (by kernel_rfl) (fun _ _ _ h => h) (Or.inl ⟨by rfl, ?hy9x⟩) hS0 ?rest9x
            case hy9x => (intro w hSw; go_simp; try with_reducible rfl)
            try simp only [Act.put, List.setIfInBounds_toArray, List.set_cons_zero, List.set_cons_succ]
            refine wpAnyK_take (i := 10) (v := ?v10x) rfl (by kernel_rfl) (by kernel_rfl) (by kernel_rfl) (by kernel_rfl) (fun _ _ _ h => h) (Or.inl ⟨by rfl, ?hy10x⟩) hS0 ?rest10x
            case hy10x => (intro w hSw; go_simp; try with_reducible rfl)
            try simp only [Act.put, List.setIfInBounds_toArray, List.set_cons_zero, List.set_cons_succ]
            refine wpAnyK_take (i := 11) (v := ?v11x) rfl (by kernel_rfl) (by kernel_rfl) (by kernel_rfl) (by kernel_rfl) (fun _ _ _ h => h) (Or.inl ⟨by rfl, ?hy11x⟩) hS0 ?rest11x
            case hy11x => (intro w hSw; go_simp; try with_reducible rfl)
            try simp only [Act.put, List.setIfInBounds_toArray, List.set_cons_zero, List.set_cons_succ]
            refine wpAnyK_take (i := 12) (v := ?v12x) rfl (by kernel_rfl) (by kernel_rfl) (by kernel_rfl) (by kernel_rfl) (fun _ _ _ h => h) (Or.inl ⟨by rfl, ?hy12x⟩) hS0 ?rest12x
            case hy12x => (intro w hSw; go_simp; try with_reducible rfl)
            try simp only [Act.put, List.setIfInBounds_toArray, List.set_cons_zero, List.set_cons_succ]
            refine wpAnyK_take (i := 13) (v := ?v13x) rfl (by kernel_rfl) (by kernel_rfl) (by kernel_rfl) (by kernel_rfl) (fun _ _ _ h => h) (Or.inl ⟨by rfl, ?hy13x⟩) hS0 ?rest13x
            case hy13x => (intro w hSw; go_simp; try with_reducible rfl)
            try simp only [Act.put, List.setIfInBounds_toArray, List.set_cons_zero, List.set_cons_succ]
            refine wpAnyK_take (i := 14) (v := ?v14x) rfl (by kernel_rfl) (by kernel_rfl) (by kernel_rfl) (by kernel_rfl) (fun _ _ _ h => h) (Or.inl ⟨by rfl, ?hy14x⟩) hS0 ?rest14x
            case hy14x => (intro w hSw; go_simp; try with_reducible rfl)
            try simp only [Act.put, List.setIfInBounds_toArray, List.set_cons_zero, List.set_cons_succ]
            refine wpAnyK_take (i := 15) (v := ?v15x) rfl (by kernel_rfl) (by kernel_rfl) (by kernel_rfl) (by kernel_rfl) (fun _ _ _ h => h) (Or.inl ⟨by rfl, ?hy15x⟩) hS0 ?rest15x
            case hy15x => (intro w hSw; go_simp; try with_reducible rfl)
            try simp only [Act.put, List.setIfInBounds_toArray, List.set_cons_zero, List.set_cons_succ]
            clear hS0 g2 g4 gi g6
            refine wpAnyK_one (i := 16) (by kernel_rfl) rfl (fun K' hK => ?_)
            go_simp
            go_at_call 12
            refine (accept_any (hide (unhide HS9).drew) (Plain.elems N m) hel aS cS HSr lb i al cl lvs Hl22 Hl23 (by omega) fb fin Hl24).mono ?_
            rintro e wG ⟨F8, h23, al', cl', av, cv, rfl, hf8, hro8, hrow23, hst23⟩
            obtain ⟨HG, hHG⟩ : ∃ HG, HG = upd (upd HE 23 h23) 22 (some (lb, .cells #[.slice al' (i + 1) cl'] 88 (0, 0))) := ⟨_, rfl⟩
            rw [← hHG] at hst23
            have eG : Hid (∀ r, r ≠ 22 → r ≠ 23 → HG r = HE r) := hide (fun r h1 h2 => by rw [hHG, upd_other _ _ h1, upd_other _ _ h2])
            have eG22 : Hid (HG 22 = some (lb, .cells #[.slice al' (i + 1) cl'] 88 (0, 0))) := hide (by rw [hHG, upd_same])
            have eG23 : Hid (RowV (HG 23) 89 1 (.slice al' (i + 1) cl') (i + 1) (lvs ++ [.slice av (Plain.elems N m).length cv])) := hide (by rw [hHG, upd_other _ _ (by decide), upd_same]; exact hrow23)
            have HSG := hide hst23
            have Hf8 := hide hf8
            have Hro8 := hide hro8
            clear hHG hst23 hf8 hro8 hrow23
            have hkG : Hid (∀ wy HY, St w0 wy HY F8 → (∀ r, r ≠ 20 → HY r = HG r) → _) := hide (fun wy HY hst q => unhide hkF wy HY F8 hst ((q 18 (by decide)).trans (unhide eG 18 (by decide) (by decide))) ((q 1 (by decide)).trans (unhide eG 1 (by decide) (by decide))) ((q 16 (by decide)).trans (unhide eG 16 (by decide) (by decide))) ((q 6 (by decide)).trans (unhide eG 6 (by decide) (by decide))))
            obtain ⟨bv, hbv⟩ : ∃ bv, bv = decide (fin ∈ Plain.elems N m) := ⟨_, rfl⟩
            rw [← hbv]
            have Hbv : Hid (bv = m.testBit fin) := hide (by
              rw [hbv]
              cases hc : m.testBit fin with
              | true => exact decide_eq_true (Plain.mem_elems.2 ⟨hfin, hc⟩)
              | false => exact decide_eq_false (fun h => by have := (Plain.mem_elems.1 h).2; rw [hc] at this; cases this))
            clear hbv
            refine hK.out _ _ (fun _ => unhide hkG wG HG (unhide HSG) (fun _ _ => rfl)) ?_
            clear hK K'
            try simp only [Act.put, List.setIfInBounds_toArray, List.set_cons_zero, List.set_cons_succ]
            have hSA : ∀ o, St w0 (wG.alloc o) HG F8 := fun o => (unhide HSG).alloc o
            refine wpAnyK_one (i := 17) (by kernel_rfl) rfl (fun K' hK => ?_)
            go_simp
            refine hK.out _ _ (fun _ => unhide hkG _ HG (hSA _) (fun _ _ => rfl)) ?_
            clear hK K'
            try simp only [Act.put, List.setIfInBounds_toArray, List.set_cons_zero, List.set_cons_succ]
            refine wpAnyK_one (i := 18) (by kernel_rfl) rfl (fun K' hK => ?_)
            refine step_append_st (w0 := w0) (H := HG) (F := F8) _ rfl (.tmp 99) (.tmp 112) 102 rfl 20 (by decide) 4 iB (.bool false) 1 1 Yba.underlying102 biI biZ biS biB rfl (by decide) (.slice af i cf) i (((Plain.bfs N K E c0 i).1.take i).map (fun m => Value.bool (m.testBit fin))) rfl (hSA _) (by rw [unhide eG 20 (by decide) (by decide)]; exact unhide Hfn) ⟨wG.heap.size, 0, none⟩ 1 1 [.bool bv] rfl rfl (cell_one_new _ _ _) (one_bool _) (by unfold maxLen; omega) (by omega) ?_
            intro vy wy h20 hsty hrowy hnily
            obtain ⟨ay, cy, hvy⟩ := (unhide hrowy).sl
            subst hvy
            have g18 : (upd HG 20 h20) 18 = some (db, .cells #[.slice sa K sc, .slice a19 (i + 1) d19, .slice af i cf] 104 (0, 0)) := by rw [upd_other _ _ (by decide), unhide eG 18 (by decide) (by decide)]; exact unhide eE18
            have G18 := hide g18
            have cyt : wy.cell? ⟨db, 2, none⟩ = some (.slice af i cf) := (unhide hsty).cell g18 rfl
            have zyt : wy.frozen? ⟨db, 2, none⟩ = false := (unhide hsty).frozen g18 2
            clear g18
            have hS1 : Hid (_ ∧ _) := hide (unhide hkG wy (upd HG 20 h20) (unhide hsty) (fun r hr => upd_other _ _ hr))
            refine hK.out _ _ (fun _ => unhide hS1) ?_
            clear hK K' hSA
            try simp only [Act.put, List.setIfInBounds_toArray, List.set_cons_zero, List.set_cons_succ]
            refine wpAnyK_one (i := 19) (by kernel_rfl) rfl (fun K' hK => ?_)
            go_simp
            refine hK.out _ _ (fun _ => unhide hS1) ?_
            clear hK K'
            try simp only [Act.put, List.setIfInBounds_toArray, List.set_cons_zero, List.set_cons_succ]
            refine wpAnyK_one (i := 20) (by kernel_rfl) rfl (fun K' hK => ?_)
            go_simp
            refine hK.out _ _ (fun _ => unhide hS1) ?_
            clear hK K'
            try simp only [Act.put, List.setIfInBounds_toArray, List.set_cons_zero, List.set_cons_succ]
            refine wpAnyK_one (i := 21) (by kernel_rfl) rfl (fun K' hK => ?_)
            go_simp
            refine hK.out _ _ (fun h => absurd rfl h) ?_
            clear hK K'
            try simp only [Act.put, List.setIfInBounds_toArray, List.set_cons_zero, List.set_cons_succ]
            refine wpAnyK_done (by kernel_rfl) ?_ _
            clear cyt zyt hS1 hkG hkF
            have HSn := hide ((unhide hsty).set (unhide G18) 2 (.slice ay (i + 1) cy))
            obtain ⟨HN', hHN⟩ : ∃ HN', HN' = upd (upd HG 20 h20) 18 (some (db, .cells #[.slice sa K sc, .slice a19 (i + 1) d19, .slice ay (i + 1) cy] 104 (0, 0))) := ⟨_, rfl⟩
            have HSn' : Hid (St w0 (wy.setCell ⟨db, 2, none⟩ (.slice ay (i + 1) cy)) HN' F8) := hide (by rw [hHN]; exact unhide HSn)
            generalize wy.setCell ⟨db, 2, none⟩ (.slice ay (i + 1) cy) = wz at HSn' HSn ⊢
            clear HSn
            have HDn : Hid (Dst N K E c0 fin w0 wz HN' F8 sb nb lb fb (.slice sa K sc) (.int .i64 (lim : Int)) db nmb (i + 1) (.slice (some ⟨bo', 0, none⟩) L1 co') s6 M6 ms6 (.slice a19 (i + 1) d19) (.slice ay (i + 1) cy)) := hide (by
              have hU : ∀ r, r ≠ 18 → r ≠ 20 → r ≠ 22 → r ≠ 23 → HN' r = HE r := fun r h1 h2 h3 h4 => by rw [hHN, upd_other _ _ h1, upd_other _ _ h2, unhide eG r h3 h4]
              have hF68 : FLe F6 F8 := FLe.trans (unhide Hf7) (unhide Hf8)
              have hlen : L1 = (Plain.bfs N K E c0 (i + 1)).1.length := unhide HL1
              have htk : (Plain.bfs N K E c0 (i + 1)).1.take (i + 1) = (Plain.bfs N K E c0 i).1.take i ++ [m] := take_prefix (Plain.bfs_prefix N K E c0 i) (unhide Hm)
              refine ⟨(unhide HC9).moveF (unhide HSn') (unhide Hf8) (fun r hr => hU r (by omega) (by omega) (by omega) (by omega)), ?_, ?_, ?_, by rw [hHN, upd_same], ?_, ?_, ?_, by rw [hU 24 (by decide) (by decide) (by decide) (by decide)]; exact unhide Hl24, by omega, by have := (unhide HD).mle; have := unhide HM6; omega, ?_, ⟨(unhide Hp6).1.trans (unhide HD).pass.1, (unhide Hp6).2.trans (unhide HD).pass.2⟩⟩
              · have hV : ∀ r, r < 16 → HN' r = H6 r := fun r hr => by rw [hU r (by omega) (by omega) (by omega) (by omega), unhide eE r (by omega) (by omega), unhide hZ r (by omega) (by omega) (by omega) (by omega)]
                obtain ⟨⟨tb, tv, g1, g2⟩, n, xs, g3⟩ := unhide HT6
                exact ⟨⟨tb, tv, g1, g2.congr (fun r h1 h2 => hV r (by omega)) (fun _ _ => rfl)⟩, n, xs, by rw [hV 14 (by decide)]; exact g3⟩
              · rw [hU 16 (by decide) (by decide) (by decide) (by decide), ← hlen]; exact unhide Hord
              · rw [hU 17 (by decide) (by decide) (by decide) (by decide), ← hlen]; exact unhide Hnum
              · refine ⟨nvs ++ [.slice ar row.length cr], by rw [hU 19 (by decide) (by decide) (by decide) (by decide)]; exact unhide eE19, fun j rw' hj => ?_⟩
                rw [unhide hb2] at hj
                have hbl : (Plain.bfs N K E c0 i).2.length = i := Plain.bfs_rows N K E c0 i
                have hnl : nvs.length = i := by have := (unhide eE19).1; simp at this; omega
                by_cases hjl : j < i
                · rw [List.getElem?_append_left (by omega)] at hj
                  obtain ⟨v, h1, h2⟩ := unhide Hnr j rw' hj
                  exact ⟨v, by rw [List.getElem?_append_left (by omega)]; exact h1, h2.mono (FLe.trans (unhide Hf6) hF68)⟩
                · have hji : j = i := by
                    have := (List.getElem?_eq_some_iff.1 hj).1
                    simp at this
                    omega
                  subst hji
                  rw [List.getElem?_append_right (by omega), hbl, Nat.sub_self] at hj
                  simp only [List.getElem?_cons_zero, Option.some.injEq] at hj
                  subst hj
                  exact ⟨_, by rw [List.getElem?_append_right (by omega), hnl, Nat.sub_self]; rfl, (unhide Hro7).mono (unhide Hf8)⟩
              · rw [hHN, upd_other _ _ (by decide), upd_same, htk, List.map_append, List.map_singleton, ← unhide Hbv]
                exact unhide hrowy
              · refine ⟨al', cl', _, by rw [hHN, upd_other _ _ (by decide), upd_other _ _ (by decide)]; exact unhide eG22, by rw [hHN, upd_other _ _ (by decide), upd_other _ _ (by decide)]; exact unhide eG23, ?_⟩
                rw [htk]
                exact (unhide HlS).snoc (FLe.trans (unhide Hf6) hF68) (unhide Hro8)
              · intro x hx1 hx2
                exact unhide Hn6 x (by omega) (by rw [← unhide hb1]; exact hx2))
            have HFn : Hid (FLe F F8) := hide (FLe.trans (unhide HF) (FLe.trans (unhide Hf6) (FLe.trans (unhide Hf7) (unhide Hf8))))
            have HKn : Hid (∀ r, 24 < r → r ≠ 40 → HN' r = H r) := hide (fun r h1 h2 => by rw [hHN, upd_other _ _ (by omega), upd_other _ _ (by omega), unhide eG r (by omega) (by omega), unhide eE r (by omega) (by omega), unhide hZ' r (by omega) (by omega) h2, unhide HKp r h1 h2])
            have HJn : Hid (∀ j, j < i + 1 → j < (Plain.bfs N K E c0 j).1.length) := hide (fun j hj => by
              by_cases e : j = i
              · subst e; exact hlt
              · exact unhide HJ j (by omega))
            clear hHN hsty hrowy hnily
            go_wp2
            go_roundw
            case rel => exact ⟨i + 1, some ⟨bo', 0, none⟩, co', HN', F8, s6, M6, ms6, _, _, by go_num, by rw [← unhide HL1], hide (by rw [← unhide HL1]; exact unhide HDn), HJn, HFn, HKn, fun _ => by rw [Nat.add_sub_cancel]; omega⟩
            case measure => simp [intOf]; omega
    · have hin : (Plain.bfs N K E c0 i).1.length = i := by have := (unhide HD).ile; omega
      go_wp2
      go_ret2
      rw [← unhide Hc0]
      have hpos := Plain.bfs_pos N K E c0 i
      have hil : i ≤ lim := by
        have h1 := unhide HJ (i - 1) (by omega)
        have h2 := hlast (by omega)
        omega
      exact Or.inr ⟨db, nmb, i, _, s', M', ms', dn, df, H', F', rfl, unhide HJ, hin, hil, unhide HD, unhide HF, unhide HKp⟩
end Go.Proofs.Ybulkie
