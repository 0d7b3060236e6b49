/-
  slices.Clone of a row of moves (function 33); the accepting function (12).
-/
import Derived.Test.YbulkieMv
import Derived.Laws.Cover3
import Derived.Lib.SliceRun
import Derived.Deep.RegionLaw
import Derived.Deep.CutRange
import Derived.Deep.Cut
namespace Go.Proofs.Ybulkie
open Go.RowKit Go.Maps

theorem rwCells_one (l : List (Nat × Nat)) : ∀ u ∈ rwCells l, u.oneCell' = true := by
  intro u hu
  unfold rwCells at hu
  obtain ⟨p, _, hp⟩ := List.mem_flatMap.1 hu
  simp only [List.mem_cons, List.not_mem_nil, or_false] at hp
  rcases hp with rfl | rfl | rfl <;> rfl

set_option maxRecDepth 100000 in
theorem cloneM_any {w0 w : World} {H : Nat → Option (Nat × Obj)} {F : Nat → Option (Array Value × TypeId)} (hst : Hid (St w0 w H F)) (v : Value) (n : Nat) (xs : List Value) (hro : Hid (RoRow F 81 3 v n xs)) (hn : n ≤ 1000) (h1 : Hid (∀ u ∈ xs, u.oneCell' = true)) :
    Calls Yba.prog 33 #[v] w fun e w' => ∃ a c h', e = .returned (.slice a n c) ∧ Hid (St w0 w' (upd H 21 h') F) ∧ Hid (RowV h' 81 3 (.slice a n c) n xs) ∧ (Value.slice a n c ≠ .slice none 0 0) := by
  obtain ⟨iM, miI, miZ, miS, miB⟩ := info_parts info81
  have hr := unhide hro
  obtain ⟨_, b, cap, cc, hv, _⟩ := hr
  subst hv
  have HA := hide ((unhide hst).newAlloc (r := 21) (by decide) (.cells #[] 81 (0, 0)))
  have HR : Hid (RowV ((upd H 21 (some (w.heap.size, .cells #[] 81 (0, 0)))) 21) 81 3 (.slice (some ⟨w.heap.size, 0, none⟩) 0 0) 0 []) := hide (by
    rw [upd_same]
    exact ⟨rfl, Or.inr ⟨_, 0, #[], rfl, rfl, Nat.le_refl _, by unfold maxLen; omega, rfl, rfl⟩⟩)
  have hnw : Hid (∀ j u, xs[j]? = some u → (w.alloc (.cells #[] 81 (0, 0))).cell? ((⟨b, 0, none⟩ : Addr).add j) = some u) := hide (fun j u hj => by
    rw [Go.WideShapes.add_plain, Nat.zero_add]
    exact (unhide hro).cell ((unhide hst).alloc _) hj)
  have hq : ∀ w : World, (binOp .eql 78 (.slice (some ⟨b, 0, none⟩) n cap) (.slice none 0 0)).run Yba.prog w = .ok (.bool false) w := fun w => (Go.Lib.run_eql_slice_nil (P := Yba.prog) w 78 81 (some ⟨b, 0, none⟩) n cap 0 0 Yba.underlying78).trans (by rfl)
  go_enter Yba.func33, Yba.ntmps33
  go_wp2_with (at_builtin; refine wpList_append_st (w0 := w0) (H := upd H 21 (some (w.heap.size, .cells #[] 81 (0, 0)))) (F := F) _ rfl (.tmp 5) (.tmp 6) 78 rfl 21 (by decide) 81 iM (.agg #[.int .i64 0, .int .i64 0, .int .u8 0]) 3 24 Yba.underlying78 miI miZ miS miB rfl (by decide) (.slice (some ⟨w.heap.size, 0, none⟩) 0 0) 0 [] rfl (unhide HA) (unhide HR) ⟨b, 0, none⟩ n cap xs rfl (unhide hro).1 (unhide hnw) (unhide h1) (by unfold maxLen; omega) (by omega) ?_; intro v2 w2 h2 hst2 hrow2 hnil2)
  rw [upd_upd] at hst2
  rw [List.nil_append, Nat.zero_add] at hrow2
  obtain ⟨a2, c2, hv2⟩ := (unhide hrow2).sl
  subst hv2
  go_wp2
  go_ret
  exact ⟨a2, c2, h2, rfl, hst2, hrow2, fun e => by have := ((unhide hnil2).1 e).1; cases this⟩

theorem ret_bool {a b : Bool} (h : a = b) : Ending.returned (.bool a) = .returned (.bool b) := by rw [h]

/-- What accept leaves. -/
def AccPost (w0 : World) (H : Nat → Option (Nat × Obj)) (F : Nat → Option (Array Value × TypeId)) (lb k : Nat) (lvs : List Value) (l : List Nat) (fin : Nat) (e : Ending) (w' : World) : Prop :=
  ∃ (F' : Nat → Option (Array Value × TypeId)) (h23 : Option (Nat × Obj)) (al : Option Addr) (cl : Nat) (av : Option Addr) (cv : Nat), e = .returned (.bool (decide (fin ∈ l))) ∧ FLe F F' ∧ RoRow0 F' 3 1 (.slice av l.length cv) l.length (ints l) ∧
    RowV h23 89 1 (.slice al (k + 1) cl) (k + 1) (lvs ++ [.slice av l.length cv]) ∧ St w0 w' (upd (upd H 23 h23) 22 (some (lb, .cells #[.slice al (k + 1) cl] 88 (0, 0)))) F'

set_option maxRecDepth 100000 in
set_option maxHeartbeats 2000000 in
theorem accept_any {w0 w : World} {H : Nat → Option (Nat × Obj)} {F : Nat → Option (Array Value × TypeId)} (hst : Hid (St w0 w H F)) (l : List Nat) (hl : l.length ≤ 256) (a : Option Addr) (c : Nat) (hro : Hid (RoRow0 F 3 1 (.slice a l.length c) l.length (ints l)))
    (lb k : Nat) (al : Option Addr) (cl : Nat) (lvs : List Value) (h22 : Hid (H 22 = some (lb, .cells #[.slice al k cl] 88 (0, 0)))) (h23 : Hid (RowV (H 23) 89 1 (.slice al k cl) k lvs)) (hk : k ≤ 1000)
    (fb fin : Nat) (h24 : Hid (H 24 = some (fb, .cells #[.int .i64 (fin : Int)] 3 (0, 0)))) :
    Calls Yba.prog 12 #[.slice a l.length c, .pointer (some ⟨lb, 0, none⟩), .pointer (some ⟨fb, 0, none⟩)] w (AccPost w0 H F lb k lvs l fin) := by
  obtain ⟨iS, siI, siZ, siS, siB⟩ := info_parts info89
  have Hcl : Hid (a = none ∧ c = 0 ∧ l = [] ∨ ∃ b, a = some ⟨b, 0, none⟩ ∧ ∀ j, j < l.length → w.drew.cell? ⟨b, j, none⟩ = some (.int .i64 (l.getD j 0 : Nat))) := hide (by
    rcases unhide hro with ⟨q1, q2, _⟩ | h
    · simp only [Value.slice.injEq] at q1; exact Or.inl ⟨q1.1, q1.2.2, List.length_eq_zero_iff.1 q2⟩
    · have h' := h
      obtain ⟨_, b, cap, cc, q1, _⟩ := h'
      simp only [Value.slice.injEq] at q1
      rw [q1.1] at h
      exact Or.inr ⟨b, q1.1, fun j hj => h.cell (unhide hst).drew (getInt _ j hj)⟩)
  have c22 : w.cell? ⟨lb, 0, none⟩ = some (.slice al k cl) := (unhide hst).cell (unhide h22) rfl
  go_enter Yba.func12, Yba.ntmps12
  go_upto_region 1 with fail
  go_cut [4] from 7 to 11 (fun v4 wc => ∃ (F' : Nat → Option (Array Value × TypeId)) (av : Option Addr) (cv : Nat) (h8 : Option (Nat × Obj)) (a8 : Option Addr) (d8 : Nat), v4 = .bool false ∧ Hid (FLe F F') ∧ Hid (RoRow0 F' 3 1 (.slice av l.length cv) l.length (ints l)) ∧
    Hid (RowV h8 89 1 (.slice a8 (k + 1) d8) (k + 1) (lvs ++ [.slice av l.length cv])) ∧ Hid (St w0 wc (upd (upd H 23 h8) 22 (some (lb, .cells #[.slice a8 (k + 1) d8] 88 (0, 0)))) F'))
  case first =>
    go_region_law (first
      | (refine step_append_st (w0 := w0) (H := H) (F := F') _ rfl (.tmp 7) (.tmp 10) 88 rfl 23 (by decide) 89 iS (.slice none 0 0) 1 24 Yba.underlying88 siI siZ siS siB rfl (by decide) (.slice al k cl) k lvs rfl ((unhide HSG).alloc _) (unhide h23) ⟨wG.heap.size, 0, none⟩ 1 1 [.slice av l.length cv] rfl rfl (cell_one_new _ _ _) (one_slice _ _ _) (by unfold maxLen; omega) (by omega) ?_; intro v8 wH h8 hst8 hrow8 hnil8; obtain ⟨a8, d8, hv8⟩ := (unhide hrow8).sl; subst hv8; have hc4H : wH.cell? ⟨lb, 0, none⟩ = some (.slice al k cl) := ((unhide hst8).cell (r := 22) ((upd_other _ _ (by decide)).trans (unhide h22)) rfl); have hz4H : wH.frozen? ⟨lb, 0, none⟩ = false := (unhide hst8).frozen (r := 22) ((upd_other _ _ (by decide)).trans (unhide h22)) 0)
      | (go_simp; go_at_call 13; refine (clone_st (hide (unhide hst).drew) l hl a c Hcl).mono ?_; rintro e wG ⟨av, cv, F', rfl, HSG, HFG, HRG⟩; have hc4G : wG.cell? ⟨lb, 0, none⟩ = some (.slice al k cl) := ((unhide HSG).cell (unhide h22) rfl); have hsbG : lb < wG.heap.size := (unhide HSG).lt (unhide h22)))
    all_goals (go_wp2_with fail; go_meet)
    case rel => exact ⟨F', av, cv, h8, a8, d8, rfl, HFG, HRG, hrow8, hide ((unhide hst8).set (r := 22) ((upd_other _ _ (by decide)).trans (unhide h22)) 0 _)⟩
    case rel => exact ⟨F', av, cv, h8, a8, d8, rfl, HFG, HRG, hrow8, hide ((unhide hst8).set (r := 22) ((upd_other _ _ (by decide)).trans (unhide h22)) 0 _)⟩
    case rel => exact ⟨F', av, cv, h8, a8, d8, rfl, HFG, HRG, hrow8, hide ((unhide hst8).set (r := 22) ((upd_other _ _ (by decide)).trans (unhide h22)) 0 _)⟩
  case rest =>
  obtain ⟨F', av, cv, h8, a8, d8, rfl, HFG, HRG, HR8, HSc⟩ := hcut
  have Hro' : Hid (RoRow0 F' 3 1 (.slice a l.length c) l.length (ints l)) := hide ((unhide hro).mono (unhide HFG))
  have cfin : wc.cell? ⟨fb, 0, none⟩ = some (.int .i64 (fin : Int)) := (unhide HSc).cell (r := 24) ((upd_other _ _ (by decide)).trans ((upd_other _ _ (by decide)).trans (unhide h24))) rfl
  have Hcell : Hid (∀ j, j < l.length → ∃ b, a = some ⟨b, 0, none⟩ ∧ wc.cell? ⟨b, j, none⟩ = some (.int .i64 (l.getD j 0 : Nat))) := hide (fun j hj => by
    rcases unhide Hro' with ⟨_, q2, _⟩ | h
    · omega
    · have h' := h
      obtain ⟨_, b, cap, cc, q1, _⟩ := h'
      simp only [Value.slice.injEq] at q1
      rw [q1.1] at h
      exact ⟨b, q1.1, h.cell (unhide HSc) (getInt _ j hj)⟩)
  clear Hcl c22
  go_wp2
  go_loopw [14] (fun v14 wr => ∃ (j : Nat), j ≤ l.length ∧ v14 = .int .i64 j ∧ wr = wc ∧ Hid (fin ∉ l.take j)) (fun v14 _ => l.length - (intOf v14).toNat)
  case atStart => exact ⟨0, Nat.zero_le _, rfl, rfl, hide (by simp)⟩
  case round =>
    obtain ⟨j, hj, rfl, rfl, Hn⟩ := hrel
    by_cases hlt : j < l.length
    · obtain ⟨b, hb, cq⟩ := unhide Hcell j hlt
      subst hb
      obtain ⟨q, hq⟩ : ∃ q, q = l.getD j 0 := ⟨_, rfl⟩
      rw [← hq] at cq
      have hget : l[j]? = some q := by rw [hq, List.getElem?_eq_getElem hlt]; simp [List.getD, hlt]
      have Hget := hide hget
      clear hq hget
      by_cases hqf : q = fin
      · subst hqf
        go_wp2
        go_ret
        have : q ∈ l := List.mem_of_getElem? (unhide Hget)
        exact ⟨F', h8, a8, d8, av, cv, ret_bool (decide_eq_true this).symm, unhide HFG, unhide HRG, unhide HR8, unhide HSc⟩
      · have hqi : ¬ (q : Int) = (fin : Int) := by omega
        have Hn2 : Hid (fin ∉ l.take (j + 1)) := hide (by
          obtain ⟨h1, h2⟩ := List.getElem?_eq_some_iff.1 (unhide Hget)
          rw [List.take_add_one, unhide Hget]
          intro hm
          rcases List.mem_append.1 hm with hm | hm
          · exact unhide Hn hm
          · simp at hm; omega)
        go_wp2
        go_roundw
        case rel => exact ⟨j + 1, by omega, by go_num, trivial, Hn2⟩
        case measure => simp [intOf]; omega
    · have hjn : j = l.length := by omega
      subst hjn
      rw [List.take_length] at Hn
      go_wp2
      go_ret
      exact ⟨F', h8, a8, d8, av, cv, ret_bool (decide_eq_false (unhide Hn)).symm, unhide HFG, unhide HRG, unhide HR8, unhide HSc⟩
end Go.Proofs.Ybulkie
