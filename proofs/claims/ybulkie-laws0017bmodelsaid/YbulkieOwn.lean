/-
  MORE ON ROLES: append in a region that draws; slices.Clone, its result frozen.
-/
import Derived.Test.YbulkieCl
import Derived.Test.YbulkieShelf
import Derived.Maps.AppendAt
namespace Go.Proofs.Ybulkie
open Go.RowKit Go.Maps

theorem step_append_st {P : Program} {w0 : World} (w : World) {H : Nat → Option (Nat × Obj)} {F : Nat → Option (Array Value × TypeId)} {ops : Array Oper} {o : Oper} {a : Act} {K : Act → World → Prop} {Q : Exit → Act → World → Prop} {E : Prop} (hgd : o.guard = none) (s x : Operand) (t : TypeId)
    (ho : o.op = .call { callee := .builtin .append, args := #[s, x], argTypes := #[t, t] })
    (r : Nat) (hp : 0 < r) (e : TypeId) (i : TypeInfo) (z : Value) (size bytes : Nat) (ht : P.underlying t = some (.slice e)) (hi : P.info? e = some i) (hz : i.zero = some z)
    (hsize : i.size = size) (hby : i.bytes = bytes) (hzs : z.cells.size = size) (hsz : 0 < size)
    (v : Value) (n : Nat) (xs : List Value) (hs : a.eval s = v) (hst : St w0 w H F) (hr : RowV (H r) e size v n xs)
    (ad : Addr) (m c : Nat) (news : List Value) (hx : a.eval x = .slice (some ad) m c) (hl : news.length = m * size) (hnews : ∀ j u, news[j]? = some u → w.cell? (ad.add j) = some u) (h1 : ∀ u ∈ news, u.oneCell' = true)
    (h63 : n + m ≤ maxLen) (hbytes : (n + m) * bytes ≤ 140737488355328)
    (h : ∀ v' w' h', Hid (St w0 w' (upd H r h') F) → Hid (RowV h' e size v' (n + m) (xs ++ news)) → Hid (v' = .slice none 0 0 ↔ v = .slice none 0 0 ∧ m = 0) → K (a.put o.dst v') w') :
    if Region.wanted o (yielded ops a.tmps) = true then Oper.wp P o a w K Q else E := by
  have hw : Region.wanted o (yielded ops a.tmps) = true := by simp [Region.wanted, hgd]
  rw [if_pos hw]
  obtain ⟨v', w', hrun, h2, h3, h4, h5⟩ := run_append_own_at (P := P) w w0.heap.size t o.type e i z size bytes ht hi hz hsize hby hzs hsz v n xs (hr.owns hst) ad m c news hl hnews h1 h63 hbytes hst.size
  unfold Oper.wp execOp
  simp only [ho, resolve, invoke, builtin, Sem.run_bind, Sem.run_pure, Result.andThen_ok, List.map_toArray, List.map_cons, List.map_nil, hs, hx, hrun]
  obtain ⟨h', hst', hr'⟩ := hr.back hp hst h2 h3 h5
  exact h v' w' h' hst' hr' h4

/-- A new block that is written no more. -/
theorem St.freezeNew {w0 w w' : World} {H : Nat → Option (Nat × Obj)} {F : Nat → Option (Array Value × TypeId)} {b : Nat} {c : Array Value} {t : TypeId} (h : St w0 w H F) (hb : Below w.heap.size w w') (hn : w'.heap[b]? = some (.cells c t (0, 0))) (hge : w.heap.size ≤ b) :
    St w0 w' H (upd F b (some (c, t))) ∧ FLe F (upd F b (some (c, t))) := by
  have hF : ∀ k x, F k = some x → k ≠ b := fun k x hk e => by
    have := lt_of_heap (h.ro (c := x.1) (t := x.2) hk)
    omega
  refine ⟨?_, fun k x hk => by rw [upd_other _ _ (hF k x hk)]; exact hk⟩
  have h' := h.weak hb
  obtain ⟨tag, h1, h2⟩ := h'.live
  refine ⟨h'.below, fun k => if k = b then 0 else tag k, fun r b' o hr => ?_, fun b' c' t' hf => ?_⟩
  · have hlt := h.lt hr
    obtain ⟨a1, a2, a3, a4⟩ := h1 r b' o hr
    exact ⟨a1, a2, by show (if b' = b then 0 else tag b') = r; rw [if_neg (by omega)]; exact a3, a4⟩
  · by_cases e : b' = b
    · subst e
      rw [upd_same] at hf
      cases hf
      exact ⟨Nat.le_trans h.size hge, by simp, hn⟩
    · rw [upd_other _ _ e] at hf
      obtain ⟨a1, a2, a3⟩ := h2 b' c' t' hf
      exact ⟨a1, by show (if b' = b then 0 else tag b') = 0; rw [if_neg e]; exact a2, a3⟩

/-- A row that a callee has made, frozen. -/
theorem St.freezeRow {w0 w w' : World} {H : Nat → Option (Nat × Obj)} {F : Nat → Option (Array Value × TypeId)} {e : TypeId} {size : Nat} {v : Value} {n : Nat} {xs : List Value} (h : St w0 w H F) (hb : Below w.heap.size w w') (ho : w'.ownsRow w.heap.size e size v n xs) (hv : v ≠ .slice none 0 0) :
    ∃ F', St w0 w' H F' ∧ FLe F F' ∧ RoRow F' e size v n xs := by
  rcases ho.2 with ⟨h1, _⟩ | ⟨g, cap, cur, h1, h2, h3, h4, h5, h6, h7⟩
  · exact absurd h1 hv
  · obtain ⟨a1, a2⟩ := h.freezeNew hb h3 h2
    exact ⟨_, a1, a2, ho.1, g, cap, cur, h1, upd_same _ _ _, h4, h6, h7⟩

theorem clone_st {w0 w : World} {H : Nat → Option (Nat × Obj)} {F : Nat → Option (Array Value × TypeId)} (hst : Hid (St w0 w H F)) (l : List Nat) (hl : l.length ≤ 256) (a : Option Addr) (c : Nat)
    (hs : Hid (a = none ∧ c = 0 ∧ l = [] ∨ ∃ b, a = some ⟨b, 0, none⟩ ∧ ∀ j, j < l.length → w.cell? ⟨b, j, none⟩ = some (.int .i64 (l.getD j 0 : Nat)))) :
    Calls Yba.prog 13 #[.slice a l.length c] w fun e w' => ∃ av cv F', e = .returned (.slice av l.length cv) ∧ Hid (St w0 w' H F') ∧ Hid (FLe F F') ∧ Hid (RoRow0 F' 3 1 (.slice av l.length cv) l.length (ints l)) := by
  rcases unhide hs with ⟨rfl, rfl, rfl⟩ | ⟨b, rfl, hc⟩
  · refine (Yba.slices_Clone_int_nil 0 0 w).mono ?_
    rintro e w' ⟨rfl, rfl⟩
    exact ⟨none, 0, F, rfl, hst, hide (FLe.refl F), hide (Or.inl ⟨rfl, rfl, rfl⟩)⟩
  · refine (Yba.slices_Clone_int b 0 l.length c (castI l) w (by simp [castI]) (by omega) (fun j hj => ?_)).mono ?_
    · have hj' : j < l.length := by simpa [castI] using hj
      rw [Nat.zero_add, hc j hj']
      simp [castI, List.getD, hj']
    · rintro e w' ⟨v', rfl, ho, hv, hb⟩
      obtain ⟨F', a1, a2, a3⟩ := (unhide hst).freezeRow hb ho hv
      have a3' : RoRow F' 3 1 v' l.length (ints l) := by
        rw [ints_cast]
        have : (castI l).take l.length = castI l := List.take_of_length_le (by simp [castI])
        rw [this] at a3
        exact a3
      have a4 := a3'
      obtain ⟨_, g, cap, cur, g1, _⟩ := a4
      subst g1
      exact ⟨_, cap, F', rfl, hide a1, hide a2, hide (Or.inr a3')⟩

theorem info89 : (Yba.prog.info? 89).map (fun i => (i.zero, i.size, i.bytes)) = some (some (.slice none 0 0), 1, 24) := by kernel_rfl
theorem info78 : (Yba.prog.info? 78).map (fun i => (i.zero, i.size, i.bytes)) = some (some (.slice none 0 0), 1, 24) := by kernel_rfl
theorem info81 : (Yba.prog.info? 81).map (fun i => (i.zero, i.size, i.bytes)) = some (some (.agg #[.int .i64 0, .int .i64 0, .int .u8 0]), 3, 24) := by kernel_rfl
theorem one_slice (a : Option Addr) (n c : Nat) : ∀ u ∈ [Value.slice a n c], u.oneCell' = true := by
  intro u hu
  simp at hu
  subst hu
  rfl

theorem wf_small {v : Int} (h0 : 0 ≤ v) (h : v ≤ 100000) : (Lit.int .i64 v).wf = true := by
  have a : IntKind.i64.min ≤ v := by
    have : IntKind.i64.min ≤ 0 := by decide
    omega
  have b : v ≤ IntKind.i64.max := by
    have : 100000 ≤ IntKind.i64.max := by decide
    omega
  show (decide _ && decide _) = true
  rw [decide_eq_true a, decide_eq_true b]
  rfl

theorem Good.le256 {N : Nat} {S : List Nat} (h : Plain.Good N S) (hN : N ≤ 8) : S.length ≤ 256 := by
  have h1 := h.len
  have h2 := Nat.pow_le_pow_right (n := 2) (by decide) hN
  omega

end Go.Proofs.Ybulkie
