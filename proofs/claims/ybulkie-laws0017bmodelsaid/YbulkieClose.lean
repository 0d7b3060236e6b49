/-
  THE WALK OF zzs0017bclose: it answers 'closeM'.
-/
import Derived.Test.YbulkieRows
import Derived.Test.YbulkieBfs
import Derived.Test.YbulkieBits
import Derived.WalkKit
import Derived.WalkSpells
namespace Go.Proofs.Ybulkie
open Go.RowKit

theorem hide {p : Prop} (h : p) : Hid p := h
theorem unhide {p : Prop} (h : Hid p) : p := h

/-- The edges as they lie in the argument's memory. -/
def EdgesAt (w : World) (b off n : Nat) (es : List (Nat × Nat × Nat)) : Prop :=
  es.length = n ∧ ∀ j, j < n → ∃ e, es[j]? = some e ∧ w.cell? ⟨b, off + j * 3, none⟩ = some (.int .u8 e.1) ∧ w.cell? ⟨b, off + j * 3 + 1, none⟩ = some (.int .u8 e.2.1) ∧ w.cell? ⟨b, off + j * 3 + 2, none⟩ = some (.int .u8 e.2.2) ∧ e.1 < 256 ∧ e.2.1 < 256 ∧ e.2.2 < 256

/-- An edge as the program reads it. -/
def nrm (N K : Nat) (e : Nat × Nat × Nat) : Nat × Nat × Nat := (e.1 % N, e.2.1 % N, e.2.2 % (K + 1))

theorem nrm_lt {N K : Nat} (hN : 0 < N) (es : List (Nat × Nat × Nat)) : ∀ e ∈ es.map (nrm N K), e.2.1 < N := by
  intro e he
  obtain ⟨x, _, rfl⟩ := List.mem_map.1 he
  exact Nat.mod_lt _ hN

theorem take_edge {N K j : Nat} {es : List (Nat × Nat × Nat)} {e : Nat × Nat × Nat} (h : es[j]? = some e) : (es.map (nrm N K)).take (j + 1) = (es.map (nrm N K)).take j ++ [nrm N K e] := by
  obtain ⟨hl, he⟩ := List.getElem?_eq_some_iff.1 h
  rw [List.take_succ_eq_append_getElem (by simpa using hl)]
  simp [he]

/-- One edge of a pass, in the walk's own words. -/
theorem pass_edge {N K j x : Nat} {es : List (Nat × Nat × Nat)} {e : Nat × Nat × Nat} (h : es[j]? = some e) :
    ((es.map (nrm N K)).take (j + 1)).foldl Plain.passStep (x, false) = Plain.passStep (((es.map (nrm N K)).take j).foldl Plain.passStep (x, false)) (nrm N K e) := by
  rw [take_edge h, List.foldl_append]; rfl

theorem pass_all {N K n x : Nat} {es : List (Nat × Nat × Nat)} (h : es.length = n) : ((es.map (nrm N K)).take n).foldl Plain.passStep (x, false) = Plain.pass (es.map (nrm N K)) x := by
  rw [List.take_of_length_le (by simp [h])]; rfl

theorem lt256 {N m : Nat} (hN : N ≤ 8) (hm : m < 2 ^ N) : m < 256 := by
  have := Nat.pow_le_pow_right (n := 2) (by omega) hN
  omega

theorem ret_u32 {a b : Int} (h : a = b) : Ending.returned (.int .u32 a) = .returned (.int .u32 b) := by rw [h]

set_option maxHeartbeats 1600000 in
theorem close_any (N K b off n cap : Nat) (a0 : Option Addr) (m : Nat) (es : List (Nat × Nat × Nat)) (w : World) (hN0 : 0 < N) (hN : N ≤ 8) (hK0 : 0 < K) (hK : K ≤ 3) (hn : n ≤ 256) (hm : m < 2 ^ N)  (ha : Hid (0 < n → a0 = some ⟨b, off, none⟩)) (hbw0 : Hid (0 < n → b < w.heap.size)) (he : Hid (EdgesAt w b off n es)) :
    Calls Yba.prog 15 #[.int .i64 N, .int .i64 K, .slice a0 n cap, .int .u32 m] w fun e w' => e = .returned (.int .u32 (Plain.closeM N (es.map (nrm N K)) m)) ∧ Below w.heap.size w w' := by
  have hE := nrm_lt (K := K) hN0 es
  generalize hEE : es.map (nrm N K) = E at hE ⊢
  have HEE := hide hEE
  clear hEE
  go_enter Yba.func15, Yba.ntmps15
  go_wp2
  go_loopw [3, 9] (fun a r wr => ∃ (k : Nat) (x : Nat), k ≤ N + 1 ∧ r = .int .i64 k ∧ a = .int .u32 x ∧ x < 2 ^ N ∧ Hid (Plain.closeLoop E (N + 1 - k) x = Plain.closeM N E m) ∧ Below w.heap.size w wr) (fun _ i _ => N + 1 - (intOf i).toNat)
  case atStart => exact ⟨0, m, Nat.zero_le _, rfl, rfl, hm, hide rfl, Below.refl _ _⟩
  case round =>
    obtain ⟨k, x, hk, rfl, rfl, hx, HC, hnx⟩ := hrel
    by_cases hlt : k ≤ N
    · go_wp2
      go_loopw [3, 10, 22] (fun a c i w2 => ∃ (j : Nat), j ≤ n ∧ i = .int .i64 j ∧ a = .int .u32 ((E.take j).foldl Plain.passStep (x, false)).1 ∧ c = .bool ((E.take j).foldl Plain.passStep (x, false)).2 ∧ Below w.heap.size w w2) (fun _ _ i _ => n - (intOf i).toNat)
      case atStart => exact ⟨0, Nat.zero_le _, rfl, rfl, rfl, hnx⟩
      case round =>
        obtain ⟨j, hj, rfl, rfl, rfl, hnx2⟩ := hrel
        have hylt := Plain.fold_lt N (E.take j) (x, false) (fun e he => hE e (List.mem_of_mem_take he)) hx
        by_cases hlj : j < n
        · obtain ⟨e, he1, hc1, hc2, hc3, b1, b2, b3⟩ := (unhide he).2 j hlj
          have hbw := unhide hbw0 (by omega)
          have haa := unhide ha (by omega)
          subst haa
          have d1 := (hnx2.cell (p := ⟨b, off + j * 3, none⟩) hbw).trans hc1
          have d2 := (hnx2.cell (p := ⟨b, off + j * 3 + 1, none⟩) hbw).trans hc2
          have d3 := (hnx2.cell (p := ⟨b, off + j * 3 + 2, none⟩) hbw).trans hc3
          have HP := hide (pass_edge (N := N) (K := K) (x := x) he1)
          rw [unhide HEE] at HP
          clear hc1 hc2 hc3 he1
          generalize (E.take j).foldl Plain.passStep (x, false) = p at hylt HP ⊢
          obtain ⟨y, ch⟩ := p
          have hy : y < 256 := lt256 hN hylt
          obtain ⟨f, hf, hf1, Hf⟩ : ∃ f : Nat, (e.1 : Int) % (N : Int) = (f : Int) ∧ f < 8 ∧ Hid (e.1 % N = f) := ⟨e.1 % N, mod_nat _ _, by have := Nat.mod_lt e.1 hN0; omega, hide rfl⟩
          obtain ⟨t, ht, hf2, Ht⟩ : ∃ f : Nat, (e.2.1 : Int) % (N : Int) = (f : Int) ∧ f < 8 ∧ Hid (e.2.1 % N = f) := ⟨e.2.1 % N, mod_nat _ _, by have := Nat.mod_lt e.2.1 hN0; omega, hide rfl⟩
          obtain ⟨sy, hsy0, Hs⟩ : ∃ f : Nat, (e.2.2 : Int) % ((K : Int) + 1) = (f : Int) ∧ Hid (e.2.2 % (K + 1) = f) := ⟨e.2.2 % (K + 1), mod_nat1 _ _, hide rfl⟩
          have hN' : nrm N K e = (f, t, sy) := by unfold nrm; rw [unhide Hf, unhide Ht, unhide Hs]
          rw [hN'] at HP
          clear hN' Hf Ht Hs
          have hs1 := shift8 hf1
          have hs2 := shift8 hf2
          obtain ⟨p1, hp1⟩ : ∃ p, p = 2 ^ f := ⟨_, rfl⟩
          obtain ⟨p2, hp2⟩ : ∃ p, p = 2 ^ t := ⟨_, rfl⟩
          rw [← hp1] at hs1
          rw [← hp2] at hs2
          by_cases hsy : sy = 0
          · subst hsy
            cases hb1 : y.testBit f with
            | false =>
              have t1 : bits BinOp.and IntKind.u32 (y : Int) (p1 : Int) = 0 := by rw [hp1]; exact and_no hy hf1 hb1
              have R : Plain.passStep (y, ch) (f, t, 0) = (y, ch) := by simp [Plain.passStep, hb1]
              have HR := hide R
              clear R hp1 hp2 hb1
              go_wp2
              go_roundw
              case rel => refine ⟨j + 1, by omega, by go_num, ?_, ?_, hnx2.alloc hnx2.size _⟩ <;> rw [unhide HP, unhide HR]
              case measure => simp [intOf]; omega
            | true =>
              have t1 : ¬ bits BinOp.and IntKind.u32 (y : Int) (p1 : Int) = 0 := by rw [hp1]; exact and_yes hy hf1 hb1
              cases hb2 : y.testBit t with
              | true =>
                have t2 : ¬ bits BinOp.and IntKind.u32 (y : Int) (p2 : Int) = 0 := by rw [hp2]; exact and_yes hy hf2 hb2
                have t2b : (bits BinOp.and IntKind.u32 (y : Int) (p2 : Int) == 0) = false := beq_eq_false_iff_ne.2 t2
                have R : Plain.passStep (y, ch) (f, t, 0) = (y, ch) := by simp [Plain.passStep, hb1, hb2]
                have HR := hide R
                clear R hp1 hp2 hb1 hb2
                go_wp2
                go_roundw
                case rel => refine ⟨j + 1, by omega, by go_num, ?_, ?_, hnx2.alloc hnx2.size _⟩ <;> rw [unhide HP, unhide HR]
                case measure => simp [intOf]; omega
              | false =>
                have t2 : bits BinOp.and IntKind.u32 (y : Int) (p2 : Int) = 0 := by rw [hp2]; exact and_no hy hf2 hb2
                have R : Plain.passStep (y, ch) (f, t, 0) = (y ||| 2 ^ t, true) := by simp [Plain.passStep, hb1, hb2]
                have HR := hide R
                have t3 : Hid (bits BinOp.or IntKind.u32 (y : Int) (p2 : Int) = ((y ||| 2 ^ t : Nat) : Int)) := by rw [hp2]; exact or_bit hy hf2
                clear R hp1 hp2 hb1 hb2
                go_wp2
                go_roundw
                case rel =>
                  refine ⟨j + 1, by omega, by go_num, ?_, ?_, hnx2.alloc hnx2.size _⟩
                  · rw [unhide HP, unhide HR, unhide t3]
                  · rw [unhide HP, unhide HR]
                case measure => simp [intOf]; omega
          · have t0 : ¬ (sy : Int) = 0 := by omega
            have R : Plain.passStep (y, ch) (f, t, sy) = (y, ch) := by simp [Plain.passStep, hsy]
            have HR := hide R
            clear R hp1 hp2 hsy
            go_wp2
            go_roundw
            case rel => refine ⟨j + 1, by omega, by go_num, ?_, ?_, hnx2.alloc hnx2.size _⟩ <;> rw [unhide HP, unhide HR]
            case measure => simp [intOf]; omega
        · have hjn : j = n := by omega
          have HA : Hid ((E.take j).foldl Plain.passStep (x, false) = Plain.pass E x) := by
            have := pass_all (N := N) (K := K) (x := x) (unhide he).1
            rw [unhide HEE] at this
            rw [hjn]; exact this
          have hpl := Plain.fold_lt N E (x, false) hE hx
          have HU : Hid (Plain.closeLoop E (N + 1 - k) x = if (Plain.pass E x).2 = true then Plain.closeLoop E (N + 1 - (k + 1)) (Plain.pass E x).1 else (Plain.pass E x).1) := by
            have : N + 1 - k = (N + 1 - (k + 1)) + 1 := by omega
            rw [this]; rfl
          clear hjn
          rw [unhide HA]
          clear HA hylt
          generalize hpp : Plain.pass E x = p at HU ⊢
          have hpl' : p.1 < 2 ^ N := by rw [← hpp]; exact hpl
          clear hpl hpp
          obtain ⟨y, ch⟩ := p
          cases ch with
          | false =>
            go_wp2
            go_ret
            exact ⟨ret_u32 (by have := unhide HU; rw [unhide HC] at this; rw [this]; simp), hnx2⟩
          | true =>
            go_wp2
            go_roundw
            case rel => exact ⟨k + 1, y, by omega, by go_num, rfl, hpl', hide (by have := unhide HU; rw [unhide HC] at this; rw [this]; simp), hnx2⟩
            case measure => simp [intOf]; omega
    · have HZ : Hid (x = Plain.closeM N E m) := by
        have := unhide HC
        rw [show N + 1 - k = 0 by omega] at this
        exact this
      go_wp2
      go_ret
      exact ⟨ret_u32 (by rw [unhide HZ]), hnx⟩
end Go.Proofs.Ybulkie
