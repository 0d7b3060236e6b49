/-
  THE WALKS OF encoding/binary.AppendUvarint AT A SMALL NUMBER AND OF appendKey.
-/
import Derived.Test.YbulkieRows
import Derived.Test.YbulkieMem
import Derived.Test.YbulkieClose
import Derived.WalkSpells
namespace Go.Proofs.Ybulkie
open Go.RowKit

theorem info5 : (Yba.prog.info? 5).map (fun i => (i.zero, i.size, i.bytes)) = some (some (.int .u8 0), 1, 1) := by kernel_rfl
theorem info3 : (Yba.prog.info? 3).map (fun i => (i.zero, i.size, i.bytes)) = some (some (.int .i64 0), 1, 8) := by kernel_rfl

theorem one_byte (x : Int) : ∀ u ∈ [Value.int .u8 x], u.oneCell' = true := ints_oneCell .u8 [x]
theorem one_int (x : Int) : ∀ u ∈ [Value.int .i64 x], u.oneCell' = true := ints_oneCell .i64 [x]

set_option maxRecDepth 100000 in
set_option maxHeartbeats 800000 in
theorem uvar_any {w0 w : World} {H : Nat → Option (Nat × Obj)} {F : Nat → Option (Array Value × TypeId)} (hst : Hid (St w0 w H F)) (r : Nat) (hr0 : 0 < r) (kv : Value) (n x : Nat) (xs : List Value) (hx : x < 8) (hn : n ≤ 1000)
    (hrow : Hid (RowV (H r) 5 1 kv n xs)) :
    Calls Yba.prog 54 #[kv, .int .u64 x] w fun e w' => ∃ kv' h', e = .returned kv' ∧ St w0 w' (upd H r h') F ∧ RowV h' 5 1 kv' (n + 1) (xs ++ [.int .u8 x]) := by
  obtain ⟨i0, hi, hz0, hz1, hz2⟩ := info_parts info5
  have hlt : ¬ (128 : Int) ≤ (x : Int) := by omega
  go_enter Yba.func54, Yba.ntmps54
  go_wp2
  refine wp_loop_rounds 1 ?_
  rw [rounds_succ]
  go_wp2_with (at_builtin; refine wpList_append_st (w0 := w0) (H := H) (F := F) _ rfl _ _ 22 rfl r hr0 5 i0 (.int .u8 0) 1 1 Yba.underlying22 hi hz0 hz1 hz2 rfl (by decide) kv n xs rfl ((unhide hst).alloc _) (unhide hrow) ⟨w.heap.size, 0, none⟩ 1 1 [_] rfl rfl (cell_one_new _ _ _) (one_byte _) (by unfold maxLen; omega) (by omega) ?_; intro v' w' h' hst' hrow' hnil')
  go_ret
  exact ⟨v', h', rfl, unhide hst', unhide hrow'⟩

theorem getInt (l : List Nat) (j : Nat) (h : j < l.length) : (l.map (fun q : Nat => Value.int .i64 (q : Int)))[j]? = some (.int .i64 (l.getD j 0 : Nat)) := by
  simp [List.getD, h]

theorem take_map_snoc (l : List Nat) (f : Nat → Value) (j : Nat) (h : j < l.length) : (l.take j).map f ++ [f (l.getD j 0)] = (l.take (j + 1)).map f := by
  rw [List.take_succ_eq_append_getElem h, List.map_append]
  simp [List.getD, h]

def ints (l : List Nat) : List Value := l.map (fun q : Nat => Value.int .i64 (q : Int))
def bytesV (l : List Nat) : List Value := l.map (fun q : Nat => Value.int .u8 (q : Int))

set_option maxRecDepth 100000 in
set_option maxHeartbeats 800000 in
/-- appendKey: a byte a state, behind what is there (nothing). -/
theorem key_any {w0 w : World} {H : Nat → Option (Nat × Obj)} {F : Nat → Option (Array Value × TypeId)} (hst : Hid (St w0 w H F)) (rs : Nat) (hrs : rs ≠ 5) (kv sv : Value) (n : Nat) (l : List Nat) (hl : Hid (∀ q ∈ l, q < 8)) (hln : Hid (l.length = n)) (hn : n ≤ 256)
    (hrow : Hid (RowV (H 5) 5 1 kv 0 [])) (hs : Hid (RowV (H rs) 3 1 sv n (ints l))) :
    Calls Yba.prog 45 #[kv, sv] w fun e w' => ∃ kv' h', e = .returned kv' ∧ St w0 w' (upd H 5 h') F ∧ RowV h' 5 1 kv' n (bytesV l) := by
  have hfin : ∀ (wr : World) (kv' : Value) (h' : Option (Nat × Obj)) (j : Nat), n ≤ j → St w0 wr (upd H 5 h') F → RowV h' 5 1 kv' j (bytesV (l.take j)) → j ≤ n → RowV h' 5 1 kv' n (bytesV l) := by
    intro wr kv' h' j h1 _ h3 h4
    have e : j = n := by omega
    subst e
    rw [List.take_of_length_le (by have := unhide hln; omega)] at h3
    exact h3
  have HF := hide hfin
  clear hfin
  rcases RowV.shape (unhide hs) with ⟨rfl, rfl⟩ | ⟨b, cap, rfl⟩
  · go_enter Yba.func45, Yba.ntmps45
    go_wp2
    refine wp_loop_rounds 1 ?_
    rw [rounds_succ]
    go_wp2
    go_ret
    refine ⟨kv, H 5, rfl, ?_, ?_⟩
    · have : upd H 5 (H 5) = H := by funext j; unfold upd; split <;> simp_all
      rw [this]; exact unhide hst
    · have := unhide hln
      rw [List.length_eq_zero_iff] at this
      subst this
      exact unhide hrow
  · go_enter Yba.func45, Yba.ntmps45
    go_wp2
    go_loopw [0, 9] (fun k i wr => ∃ (j : Nat) (h' : Option (Nat × Obj)), j ≤ n ∧ i = .int .i64 j ∧ Hid (St w0 wr (upd H 5 h') F) ∧ Hid (RowV h' 5 1 k j (bytesV (l.take j)))) (fun _ i _ => n - (intOf i).toNat)
    case atStart =>
      refine ⟨0, H 5, Nat.zero_le _, rfl, ?_, hrow⟩
      have : upd H 5 (H 5) = H := by funext j; unfold upd; split <;> simp_all
      rw [this]; exact hst
    case round =>
      obtain ⟨j, h', hj, rfl, hst', hrow'⟩ := hrel
      by_cases hlt : j < n
      · have hjl : j < l.length := by have := unhide hln; omega
        obtain ⟨q, hq⟩ : ∃ q, q = l.getD j 0 := ⟨_, rfl⟩
        have hq8 : q < 8 := unhide hl q (by rw [hq]; simp [List.getD, hjl])
        have hc : wr.cell? ⟨b, j, none⟩ = some (.int .i64 (q : Int)) := by
          have hs' : RowV ((upd H 5 h') rs) 3 1 (.slice (some ⟨b, 0, none⟩) n cap) n (ints l) := by rw [upd_other _ _ hrs]; exact unhide hs
          rw [hq]
          exact hs'.cell (unhide hst') (getInt l j hjl)
        have HS := hide (take_map_snoc l (fun q : Nat => Value.int .u8 (q : Int)) j hjl)
        rw [← hq] at HS
        clear hq
        go_wp2_with fail
        refine (uvar_any hst' 5 (by decide) _ j q _ hq8 (by omega) (by rw [upd_same]; exact hrow')).mono ?_
        rintro e w2 ⟨kv2, h2, rfl, hst2, hrow2⟩
        rw [upd_upd] at hst2
        have HS2 := hide hst2
        have HR2 := hide hrow2
        clear hst2 hrow2
        go_wp2
        go_roundw
        case rel => exact ⟨j + 1, h2, by omega, by go_num, HS2, hide (by have := unhide HR2; unfold bytesV at this ⊢; rw [unhide HS] at this; exact this)⟩
        case measure => simp [intOf]; omega
      · go_wp2
        go_ret
        exact ⟨_, h', rfl, unhide hst', unhide HF wr _ h' j (by omega) (unhide hst') (unhide hrow') hj⟩

end Go.Proofs.Ybulkie
