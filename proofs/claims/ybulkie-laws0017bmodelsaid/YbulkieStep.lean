/-
  THE WALKS OF zzs0017bstep AND zzs0017bmask.
-/
import Derived.Test.YbulkieClose
namespace Go.Proofs.Ybulkie
open Go.RowKit

def stepFold (m sym : Nat) (t : Nat) (e : Nat × Nat × Nat) : Nat := if e.2.2 = sym + 1 ∧ m.testBit e.1 = true then t ||| 2 ^ e.2.1 else t

theorem stepMask_eq (E : List (Nat × Nat × Nat)) (m sym : Nat) : Plain.stepMask E m sym = E.foldl (stepFold m sym) 0 := rfl

theorem stepFold_lt (N m sym : Nat) : ∀ (E : List (Nat × Nat × Nat)) (t : Nat), (∀ e ∈ E, e.2.1 < N) → t < 2 ^ N → E.foldl (stepFold m sym) t < 2 ^ N
  | [], _, _, h => h
  | e :: E, t, hE, h => by
    refine stepFold_lt N m sym E _ (fun x hx => hE x (List.mem_cons_of_mem _ hx)) ?_
    unfold stepFold
    split
    · exact Plain.or_bit_lt h (hE e (List.mem_cons_self ..))
    · exact h

theorem step_edge {N K j m sym : Nat} {es : List (Nat × Nat × Nat)} {e : Nat × Nat × Nat} (h : es[j]? = some e) :
    ((es.map (nrm N K)).take (j + 1)).foldl (stepFold m sym) 0 = stepFold m sym (((es.map (nrm N K)).take j).foldl (stepFold m sym) 0) (nrm N K e) := by
  rw [take_edge h, List.foldl_append]; rfl

set_option maxHeartbeats 1600000 in
theorem step_any (N K b off n cap : Nat) (a0 : Option Addr) (m sym : Nat) (es : List (Nat × Nat × Nat)) (w : World) (hN0 : 0 < N) (hN : N ≤ 8) (hK0 : 0 < K) (hK : K ≤ 3) (hn : n ≤ 256) (hm : m < 2 ^ N) (hsym : sym < K) (ha : Hid (0 < n → a0 = some ⟨b, off, none⟩)) (hbw0 : Hid (0 < n → b < w.heap.size)) (he : Hid (EdgesAt w b off n es)) :
    Calls Yba.prog 16 #[.int .i64 N, .int .i64 K, .slice a0 n cap, .int .u32 m, .int .i64 sym] w fun e w' => e = .returned (.int .u32 (Plain.stepC N (es.map (nrm N K)) m sym)) ∧ Below w.heap.size w w' := by
  have hE := nrm_lt (K := K) hN0 es
  have hm8 : m < 256 := lt256 hN hm
  obtain ⟨E, hEE⟩ : ∃ E, es.map (nrm N K) = E := ⟨_, rfl⟩
  rw [hEE] at hE
  have HEE := hide hEE
  clear hEE
  go_enter Yba.func16, Yba.ntmps16
  go_wp2
  go_loopw [11, 18] (fun a i wr => ∃ (j : Nat), j ≤ n ∧ i = .int .i64 j ∧ a = .int .u32 (((E.take j).foldl (stepFold m sym) 0 : Nat) : Int) ∧ Below w.heap.size w wr) (fun _ i _ => n - (intOf i).toNat)
  case atStart => exact ⟨0, Nat.zero_le _, rfl, rfl, Below.refl _ _⟩
  case round =>
    obtain ⟨j, hj, rfl, rfl, hnx2⟩ := hrel
    have hylt := stepFold_lt N m sym (E.take j) 0 (fun e he => hE e (List.mem_of_mem_take he)) (Nat.two_pow_pos N)
    by_cases hlj : j < n
    · obtain ⟨e, he1, hc1, hc2, hc3, b1, b2, b3⟩ := (unhide he).2 j hlj
      have hbw := unhide hbw0 (by omega)
      have haa := unhide ha (by omega)
      subst haa
      have d1 := (hnx2.cell (p := ⟨b, off + j * 3, none⟩) hbw).trans hc1
      have d2 := (hnx2.cell (p := ⟨b, off + j * 3 + 1, none⟩) hbw).trans hc2
      have d3 := (hnx2.cell (p := ⟨b, off + j * 3 + 2, none⟩) hbw).trans hc3
      have HP := hide (step_edge (N := N) (K := K) (m := m) (sym := sym) he1)
      rw [unhide HEE] at HP
      clear hc1 hc2 hc3 he1
      generalize (E.take j).foldl (stepFold m sym) 0 = y at hylt HP ⊢
      have hy : y < 256 := lt256 hN hylt
      obtain ⟨f, hf, hf1, Hf⟩ : ∃ f : Nat, (e.1 : Int) % (N : Int) = (f : Int) ∧ f < 8 ∧ Hid (e.1 % N = f) := ⟨e.1 % N, mod_nat _ _, by have := Nat.mod_lt e.1 hN0; omega, hide rfl⟩
      obtain ⟨t, ht, hf2, Ht⟩ : ∃ f : Nat, (e.2.1 : Int) % (N : Int) = (f : Int) ∧ f < 8 ∧ Hid (e.2.1 % N = f) := ⟨e.2.1 % N, mod_nat _ _, by have := Nat.mod_lt e.2.1 hN0; omega, hide rfl⟩
      obtain ⟨sy, hsy0, Hs⟩ : ∃ f : Nat, (e.2.2 : Int) % ((K : Int) + 1) = (f : Int) ∧ Hid (e.2.2 % (K + 1) = f) := ⟨e.2.2 % (K + 1), mod_nat1 _ _, hide rfl⟩
      have hN' : nrm N K e = (f, t, sy) := by unfold nrm; rw [unhide Hf, unhide Ht, unhide Hs]
      rw [hN'] at HP
      clear hN' Hf Ht Hs
      have hs1 := shift8 hf1
      have hs2 := shift8 hf2
      obtain ⟨p1, hp1⟩ : ∃ p, p = 2 ^ f := ⟨_, rfl⟩
      obtain ⟨p2, hp2⟩ : ∃ p, p = 2 ^ t := ⟨_, rfl⟩
      rw [← hp1] at hs1
      rw [← hp2] at hs2
      by_cases hsy : sy = sym + 1
      · have t0 : ((sy : Int) == (sym : Int) + 1) = true := beq_iff_eq.2 (by omega)
        cases hb1 : m.testBit f with
        | false =>
          have t1 : bits BinOp.and IntKind.u32 (m : Int) (p1 : Int) = 0 := by rw [hp1]; exact and_no hm8 hf1 hb1
          have R : stepFold m sym y (f, t, sy) = y := by simp [stepFold, hb1]
          have HR := hide R
          clear R hp1 hp2 hsy hb1
          go_wp2
          go_roundw
          case rel => exact ⟨j + 1, by omega, by go_num, by rw [unhide HP, unhide HR], hnx2.alloc hnx2.size _⟩
          case measure => simp [intOf]; omega
        | true =>
          have t1 : ¬ bits BinOp.and IntKind.u32 (m : Int) (p1 : Int) = 0 := by rw [hp1]; exact and_yes hm8 hf1 hb1
          have t1b : (bits BinOp.and IntKind.u32 (m : Int) (p1 : Int) != 0) = true := by simpa using t1
          have R : stepFold m sym y (f, t, sy) = y ||| 2 ^ t := by simp [stepFold, hb1, hsy]
          have HR := hide R
          have t3 : Hid (bits BinOp.or IntKind.u32 (y : Int) (p2 : Int) = ((y ||| 2 ^ t : Nat) : Int)) := by rw [hp2]; exact or_bit hy hf2
          clear R hp1 hp2 hsy hb1
          go_wp2
          go_roundw
          case rel => exact ⟨j + 1, by omega, by go_num, by rw [unhide HP, unhide HR, unhide t3], hnx2.alloc hnx2.size _⟩
          case measure => simp [intOf]; omega
      · have t0 : ((sy : Int) == (sym : Int) + 1) = false := beq_eq_false_iff_ne.2 (by omega)
        have R : stepFold m sym y (f, t, sy) = y := by simp [stepFold, hsy]
        have HR := hide R
        clear R hp1 hp2 hsy
        go_wp2
        go_roundw
        case rel => exact ⟨j + 1, by omega, by go_num, by rw [unhide HP, unhide HR], hnx2.alloc hnx2.size _⟩
        case measure => simp [intOf]; omega
    · have hjn : E.take j = E := by
        have h1 := (unhide he).1
        have h2 := unhide HEE
        exact List.take_of_length_le (by rw [← h2, List.length_map]; omega)
      rw [hjn] at hylt ⊢
      clear hjn
      have HM : Hid (E.foldl (stepFold m sym) 0 = Plain.stepMask E m sym) := hide rfl
      generalize E.foldl (stepFold m sym) 0 = y at hylt HM ⊢
      have he2 : Hid (EdgesAt wr b off n es) := hide ⟨(unhide he).1, fun j hj => by
        obtain ⟨e, h1, h2, h3, h4, h5⟩ := (unhide he).2 j hj
        have hbw := unhide hbw0 (by omega)
        exact ⟨e, h1, (hnx2.cell (by exact hbw)).trans h2, (hnx2.cell (by exact hbw)).trans h3, (hnx2.cell (by exact hbw)).trans h4, h5⟩⟩
      have hbr : Hid (0 < n → b < wr.heap.size) := hide (fun h => by have := hnx2.size; have := unhide hbw0 h; omega)
      go_wp2_with fail
      refine (close_any N K b off n cap a0 y es wr hN0 hN hK0 hK hn hylt ha hbr he2).mono ?_
      rintro r w' ⟨rfl, hb'⟩
      go_wp2
      go_ret
      refine ⟨ret_u32 ?_, hnx2.trans (hb'.mono hnx2.size)⟩
      have hy : Plain.stepC N E m sym = Plain.closeM N E y := by rw [unhide HM]; rfl
      rw [unhide HEE, hy]

/-- A slice of ints whose elements are the states l. -/
def StatesAt (w : World) (a0 : Option Addr) (n : Nat) (l : List Nat) : Prop :=
  l.length = n ∧ (0 < n → ∃ b off, a0 = some ⟨b, off, none⟩ ∧ ∀ j, j < n → w.cell? ⟨b, off + j, none⟩ = some (.int .i64 (l.getD j 0)))

theorem mask_snoc (l : List Nat) (j : Nat) (h : j < l.length) : Plain.maskOf (l.take (j + 1)) = Plain.maskOf (l.take j) ||| 2 ^ (l.getD j 0) := by
  rw [List.take_succ_eq_append_getElem h]
  unfold Plain.maskOf
  rw [List.foldl_append]
  simp [List.getD, h]

theorem ret_u32b {a b : Int} (h : a = b) : Ending.returned (.tuple #[.int .u32 a, .bool true]) = .returned (.tuple #[.int .u32 b, .bool true]) := by rw [h]

set_option maxHeartbeats 800000 in
theorem mask_any (N n cap m : Nat) (a0 : Option Addr) (w : World) (hN0 : 0 < N) (hN : N ≤ 8) (hm : m < 2 ^ N) (hs : Hid (StatesAt w a0 n (Plain.elems N m))) :
    Calls Yba.prog 19 #[.slice a0 n cap, .int .i64 N] w fun e w' => e = .returned (.tuple #[.int .u32 m, .bool true]) ∧ w' = w := by
  have hsrt := Plain.elems_sorted N m
  have hlt : ∀ q ∈ Plain.elems N m, q < N := fun q hq => (Plain.mem_elems.1 hq).1
  have HM := hide (Plain.maskOf_elems hm)
  obtain ⟨l, hl⟩ : ∃ l, l = Plain.elems N m := ⟨_, rfl⟩
  rw [← hl] at hsrt hlt HM hs
  clear hl
  have hln : n ≤ 8 := by
    have h1 := Plain.nodup_le N l (Plain.pw_mono (fun _ _ h => Nat.ne_of_lt h) hsrt) hlt
    have := (unhide hs).1
    omega
  have HL := hide hlt
  have HT := hide hsrt
  clear hlt hsrt
  go_enter Yba.func19, Yba.ntmps19
  go_wp2
  go_loop [6, 7, 12] (fun a p i => ∃ (j : Nat) (pv : Int), j ≤ n ∧ i = .int .i64 j ∧ a = .int .u32 (Plain.maskOf (l.take j)) ∧ p = .int .i64 pv ∧ -1 ≤ pv ∧ pv ≤ 8 ∧ Hid (∀ q ∈ l.drop j, pv < (q : Int))) (fun _ _ i => n - (intOf i).toNat)
  case atStart => exact ⟨0, -1, Nat.zero_le _, rfl, rfl, rfl, by omega, by omega, hide (fun q _ => by omega)⟩
  case round =>
    obtain ⟨j, pv, hj, rfl, rfl, rfl, hp1, hp2, HD⟩ := hrel
    have hy : Plain.maskOf (l.take j) < 256 := lt256 hN (Plain.maskOf_lt (fun q hq => unhide HL q (List.mem_of_mem_take hq)))
    by_cases hlj : j < n
    · have hjl : j < l.length := by have := (unhide hs).1; omega
      obtain ⟨b, off, rfl, hc⟩ := (unhide hs).2 (by omega)
      have hcj := hc j hlj
      have HS := hide (mask_snoc l j hjl)
      obtain ⟨q, hq⟩ : ∃ q, q = l.getD j 0 := ⟨_, rfl⟩
      have hmem : q ∈ l := by rw [hq]; simp [List.getD, hjl]
      have hqN := unhide HL q hmem
      have hqj : q = l[j] := by rw [hq]; simp [List.getD, hjl]
      have hpq : pv < (q : Int) := unhide HD q (by rw [hqj, List.drop_eq_getElem_cons hjl]; exact List.mem_cons_self ..)
      have hnext : Hid (∀ x ∈ l.drop (j + 1), (q : Int) < (x : Int)) := hide (fun x hx => by
        have h1 : (l.drop j).Pairwise (· < ·) := (unhide HT).sublist (List.drop_sublist j l)
        rw [List.drop_eq_getElem_cons hjl, List.pairwise_cons] at h1
        have h2 := h1.1 x hx
        omega)
      rw [← hq] at hcj HS
      clear hq hc hqj
      have hs8 := shift8 (show q < 8 by omega)
      obtain ⟨p, hpp⟩ : ∃ p, p = 2 ^ q := ⟨_, rfl⟩
      have t3 : Hid (bits BinOp.or IntKind.u32 ((Plain.maskOf (l.take j) : Nat) : Int) (p : Int) = ((Plain.maskOf (l.take j) ||| 2 ^ q : Nat) : Int)) := by rw [hpp]; exact or_bit hy (by omega)
      rw [← hpp] at hs8
      clear hpp
      go_wp2
      go_round
      case rel => exact ⟨j + 1, q, by omega, by go_num, by rw [unhide t3, unhide HS], rfl, by omega, by omega, hnext⟩
      case measure => simp [intOf]; omega
    · have HE : Hid (Plain.maskOf (l.take j) = m) := by
        have h1 := unhide HM
        have h2 := (unhide hs).1
        rw [List.take_of_length_le (by omega)]
        exact h1
      go_wp2
      go_ret2
      exact ⟨ret_u32b (by rw [unhide HE]), rfl⟩

end Go.Proofs.Ybulkie
