/-
  MEMORY THAT THE CALL ITSELF MAKES, BY ROLES. A ghost 'H' says of each role (a number from 1 on) which block plays it and what lies there; a ghost 'F' names the blocks that are written no more. No block plays two roles: so a write to one role's block leaves all the others as they are.
-/
import Derived.WalkKit
import Derived.Below
import Derived.Deep.Draws
import Derived.Deep.OwnRows
import Derived.Maps.AppendAt
import Derived.Deep.AppendLies
namespace Go.Proofs.Ybulkie
open Go.RowKit

def upd {α : Type} (f : Nat → α) (k : Nat) (v : α) : Nat → α := fun j => if j = k then v else f j
theorem upd_same {α : Type} (f : Nat → α) (k : Nat) (v : α) : upd f k v k = v := by simp [upd]
theorem upd_other {α : Type} (f : Nat → α) {k j : Nat} (v : α) (h : j ≠ k) : upd f k v j = f j := by simp [upd, h]

/-- The state: w0: the world when the law was called; w: now. -/
structure St (w0 w : World) (H : Nat → Option (Nat × Obj)) (F : Nat → Option (Array Value × TypeId)) : Prop where
  below : Below w0.heap.size w0 w
  live : ∃ tag : Nat → Nat, (∀ r b o, H r = some (b, o) → 0 < r ∧ w0.heap.size ≤ b ∧ tag b = r ∧ w.heap[b]? = some o) ∧
    (∀ b c t, F b = some (c, t) → w0.heap.size ≤ b ∧ tag b = 0 ∧ w.heap[b]? = some (.cells c t (0, 0)))

def retag : Option (Nat × Obj) → Nat → (Nat → Nat) → Nat → Nat
  | some (b, _), r, tag, k => if k = b then r else tag k
  | none, _, tag, k => tag k

theorem lt_of_heap {w : World} {b : Nat} {o : Obj} (h : w.heap[b]? = some o) : b < w.heap.size := (Array.getElem?_eq_some_iff.1 h).1

section
variable {w0 w w' : World} {H : Nat → Option (Nat × Obj)} {F : Nat → Option (Array Value × TypeId)} {r r' b b' : Nat} {o o' : Obj} {h' : Option (Nat × Obj)}

theorem St.size (h : St w0 w H F) : w0.heap.size ≤ w.heap.size := h.below.size

theorem St.block (h : St w0 w H F) (hr : H r = some (b, o)) : w.heap[b]? = some o := by
  obtain ⟨tag, h1, _⟩ := h.live
  exact (h1 r b o hr).2.2.2

theorem St.lt (h : St w0 w H F) (hr : H r = some (b, o)) : b < w.heap.size := lt_of_heap (h.block hr)

theorem St.low (h : St w0 w H F) (hr : H r = some (b, o)) : w0.heap.size ≤ b := by
  obtain ⟨tag, h1, _⟩ := h.live
  exact (h1 r b o hr).2.1

theorem St.pos (h : St w0 w H F) (hr : H r = some (b, o)) : 0 < r := by
  obtain ⟨tag, h1, _⟩ := h.live
  exact (h1 r b o hr).1

theorem St.ro (h : St w0 w H F) {c : Array Value} {t : TypeId} (hf : F b = some (c, t)) : w.heap[b]? = some (.cells c t (0, 0)) := by
  obtain ⟨tag, _, h2⟩ := h.live
  exact (h2 b c t hf).2.2

theorem St.ne (h : St w0 w H F) (hr : H r = some (b, o)) (hr' : H r' = some (b', o')) (hn : r ≠ r') : b ≠ b' := by
  obtain ⟨tag, h1, _⟩ := h.live
  have e1 := (h1 r b o hr).2.2.1
  have e2 := (h1 r' b' o' hr').2.2.1
  intro e
  subst e
  exact hn (e1.symm.trans e2)

theorem St.ne_ro (h : St w0 w H F) (hr : H r = some (b, o)) {x : Array Value × TypeId} (hf : F b' = some x) : b ≠ b' := by
  obtain ⟨tag, h1, h2⟩ := h.live
  have e1 := h1 r b o hr
  have e2 := (h2 b' x.1 x.2 hf).2.1
  intro e
  subst e
  have := e1.2.2.1
  omega

/-- Nothing that was there has turned. -/
theorem St.weak (h : St w0 w H F) (hb : Below w.heap.size w w') : St w0 w' H F := by
  refine ⟨h.below.trans (hb.mono h.size), ?_⟩
  obtain ⟨tag, h1, h2⟩ := h.live
  refine ⟨tag, fun r b o hr => ?_, fun b c t hf => ?_⟩
  · obtain ⟨a1, a2, a3, a4⟩ := h1 r b o hr
    exact ⟨a1, a2, a3, (hb.block b (lt_of_heap a4)).trans a4⟩
  · obtain ⟨a1, a2, a3⟩ := h2 b c t hf
    exact ⟨a1, a2, (hb.block b (lt_of_heap a3)).trans a3⟩

theorem St.alloc (h : St w0 w H F) (o : Obj) : St w0 (w.alloc o) H F := h.weak ((Below.refl _ _).alloc (Nat.le_refl _) _)
theorem St.drew (h : St w0 w H F) : St w0 w.drew H F := h.weak (Below.refl _ _).drew
theorem St.drewN (h : St w0 w H F) (n : Nat) : St w0 (w.drewN n) H F := h.weak ⟨rfl, rfl, rfl, Nat.le_refl _, fun _ _ => rfl⟩

/-- ONE ROLE's BLOCK HAS TURNED, or has moved to a new block; all else is as it was. -/
theorem St.turn (h : St w0 w H F) (hos : w'.os = w.os) (htape : w'.tape = w.tape) (hout : w'.output = w.output) (hsize : w.heap.size ≤ w'.heap.size) (hr : 0 < r)
    (hg : ∀ k, k < w.heap.size → (∀ o, H r ≠ some (k, o)) → w'.heap[k]? = w.heap[k]?)
    (hh : ∀ b' o', h' = some (b', o') → w'.heap[b']? = some o' ∧ (w.heap.size ≤ b' ∨ ∃ o, H r = some (b', o))) : St w0 w' (upd H r h') F := by
  have hz := h.size
  obtain ⟨tag, h1, h2⟩ := h.live
  have hlow : ∀ k, k < w0.heap.size → ∀ o, H r ≠ some (k, o) := fun k hk o e => by have := (h1 r k o e).2.1; omega
  refine ⟨⟨hos.trans h.below.os, htape.trans h.below.tape, hout.trans h.below.output, Nat.le_trans hz hsize, fun k hk => (hg k (by omega) (hlow k hk)).trans (h.below.block k hk)⟩, ?_⟩
  refine ⟨retag h' r tag, fun r2 b2 o2 he => ?_, fun b2 c2 t2 hf => ?_⟩
  · by_cases e : r2 = r
    · subst e
      rw [upd_same] at he
      obtain ⟨a1, a2⟩ := hh b2 o2 he
      refine ⟨hr, ?_, by rw [he]; simp [retag], a1⟩
      rcases a2 with a2 | ⟨o3, a2⟩
      · omega
      · exact (h1 r2 b2 o3 a2).2.1
    · rw [upd_other _ _ e] at he
      obtain ⟨a1, a2, a3, a4⟩ := h1 r2 b2 o2 he
      have hlt := lt_of_heap a4
      refine ⟨a1, a2, ?_, (hg b2 hlt (fun o3 e3 => e (a3.symm.trans (h1 r b2 o3 e3).2.2.1))).trans a4⟩
      cases hc : h' with
      | none => exact a3
      | some x =>
        obtain ⟨b3, o3⟩ := x
        show (if b2 = b3 then r else tag b2) = r2
        rw [if_neg]
        · exact a3
        · intro e3
          subst e3
          rcases (hh b2 o3 hc).2 with a5 | ⟨o4, a5⟩
          · omega
          · exact e (a3.symm.trans (h1 r b2 o4 a5).2.2.1)
  · obtain ⟨a1, a2, a3⟩ := h2 b2 c2 t2 hf
    have hlt := lt_of_heap a3
    refine ⟨a1, ?_, (hg b2 hlt (fun o3 e3 => by have := h1 r b2 o3 e3; omega)).trans a3⟩
    cases hc : h' with
    | none => exact a2
    | some x =>
      obtain ⟨b3, o3⟩ := x
      show (if b2 = b3 then r else tag b2) = 0
      rw [if_neg]
      · exact a2
      · intro e3
        subst e3
        rcases (hh b2 o3 hc).2 with a5 | ⟨o4, a5⟩
        · omega
        · have := h1 r b2 o4 a5; omega

/-- A role takes a new block. -/
theorem St.new (h : St w0 w H F) (hr : 0 < r) (hb : Below w.heap.size w w') (hn : w'.heap[b]? = some o) (hge : w.heap.size ≤ b) : St w0 w' (upd H r (some (b, o))) F :=
  h.turn hb.os hb.tape hb.output hb.size hr (fun k hk _ => hb.block k hk) (fun b' o' e => by cases e; exact ⟨hn, Or.inl hge⟩)

theorem St.newAlloc (h : St w0 w H F) (hr : 0 < r) (o : Obj) : St w0 (w.alloc o) (upd H r (some (w.heap.size, o))) F :=
  h.new hr ((Below.refl _ _).alloc (Nat.le_refl _) _) (by show (w.heap.push o)[w.heap.size]? = some o; simp) (Nat.le_refl _)

/-- A role is given up. -/
theorem St.drop (h : St w0 w H F) (hr : 0 < r) : St w0 w (upd H r none) F :=
  h.turn rfl rfl rfl (Nat.le_refl _) hr (fun _ _ _ => rfl) (fun b' o' e => by cases e)

/-- A role is given up; its block is written no more. -/
theorem St.freeze (h : St w0 w H F) {c : Array Value} {t : TypeId} (hr : H r = some (b, .cells c t (0, 0))) : St w0 w (upd H r none) (upd F b (some (c, t))) := by
  obtain ⟨tag, h1, h2⟩ := h.live
  obtain ⟨p1, p2, p3, p4⟩ := h1 r b _ hr
  refine ⟨h.below, fun k => if k = b then 0 else tag k, fun r2 b2 o2 he => ?_, fun b2 c2 t2 hf => ?_⟩
  · by_cases e : r2 = r
    · subst e; rw [upd_same] at he; cases he
    · rw [upd_other _ _ e] at he
      obtain ⟨a1, a2, a3, a4⟩ := h1 r2 b2 o2 he
      refine ⟨a1, a2, ?_, a4⟩
      simp only
      rw [if_neg]
      · exact a3
      · intro e2; subst e2; exact e (a3.symm.trans p3)
  · by_cases e : b2 = b
    · subst e
      rw [upd_same] at hf
      cases hf
      exact ⟨p2, by simp, p4⟩
    · rw [upd_other _ _ e] at hf
      obtain ⟨a1, a2, a3⟩ := h2 b2 c2 t2 hf
      exact ⟨a1, by simp [e, a2], a3⟩

/-- .. and what was known of the other frozen blocks stands. -/
theorem St.freeze_keeps (h : St w0 w H F) {c : Array Value} {t : TypeId} (hr : H r = some (b, .cells c t (0, 0))) : ∀ k x, F k = some x → upd F b (some (c, t)) k = some x := by
  intro k x hk
  rw [upd_other _ _ (fun e => h.ne_ro hr hk e.symm)]
  exact hk

/-- A store into a role's block. -/
theorem St.set (h : St w0 w H F) {c : Array Value} {t : TypeId} (hr : H r = some (b, .cells c t (0, 0))) (j : Nat) (v : Value) :
    St w0 (w.setCell ⟨b, j, none⟩ v) (upd H r (some (b, .cells (c.setIfInBounds j v) t (0, 0)))) F := by
  have hb := h.block hr
  refine h.turn rfl rfl rfl (by simp) (h.pos hr) (fun k _ hk => ?_) (fun b' o' e => ?_)
  · exact Below.heap_setCell _ _ _ _ (fun e => hk _ (by rw [show k = b from e]; exact hr))
  · cases e
    exact ⟨by simp [World.setCell, Array.getElem?_modify, hb], Or.inr ⟨_, hr⟩⟩

theorem St.cell (h : St w0 w H F) {c : Array Value} {t : TypeId} (hr : H r = some (b, .cells c t (0, 0))) {j : Nat} {v : Value} (hj : c[j]? = some v) : w.cell? ⟨b, j, none⟩ = some v := by
  simp [World.cell?, h.block hr, hj]
theorem St.frozen (h : St w0 w H F) {c : Array Value} {t : TypeId} (hr : H r = some (b, .cells c t (0, 0))) (j : Nat) : w.frozen? ⟨b, j, none⟩ = false := by
  simp [World.frozen?, h.block hr]
theorem St.cellRo (h : St w0 w H F) {c : Array Value} {t : TypeId} (hr : F b = some (c, t)) {j : Nat} {v : Value} (hj : c[j]? = some v) : w.cell? ⟨b, j, none⟩ = some v := by
  simp [World.cell?, h.ro hr, hj]

end

/-- A SLICE IN A ROLE: nil, or a row that begins at the head of the role's block. -/
def RowV (h : Option (Nat × Obj)) (e : TypeId) (size : Nat) (v : Value) (n : Nat) (xs : List Value) : Prop :=
  xs.length = n * size ∧ ((v = .slice none 0 0 ∧ n = 0 ∧ h = none) ∨
    ∃ b cap cur, h = some (b, .cells cur e (0, 0)) ∧ v = .slice (some ⟨b, 0, none⟩) n cap ∧ n ≤ cap ∧ cap ≤ maxLen ∧ cur.size = cap * size ∧ cur.toList.take (n * size) = xs)

theorem RowV.nil (e : TypeId) (size : Nat) : RowV none e size (.slice none 0 0) 0 [] := ⟨by simp, Or.inl ⟨rfl, rfl, rfl⟩⟩

theorem RowV.owns {w0 w : World} {H : Nat → Option (Nat × Obj)} {F : Nat → Option (Array Value × TypeId)} {r : Nat} {e : TypeId} {size : Nat} {v : Value} {n : Nat} {xs : List Value}
    (hr : RowV (H r) e size v n xs) (h : St w0 w H F) : w.ownsRow w0.heap.size e size v n xs := by
  refine ⟨hr.1, ?_⟩
  rcases hr.2 with ⟨h1, h2, _⟩ | ⟨b, cap, cur, h1, h2, h3, h4, h5, h6⟩
  · exact Or.inl ⟨h1, h2⟩
  · exact Or.inr ⟨b, cap, cur, h2, h.low h1, h.block h1, h3, h4, h5, h6⟩

theorem RowV.block {H : Nat → Option (Nat × Obj)} {r : Nat} {e : TypeId} {size : Nat} {v : Value} {n : Nat} {xs : List Value} (hr : RowV (H r) e size v n xs) : ∀ k, v.ownBlock = some k → ∃ o, H r = some (k, o) := by
  intro k hk
  rcases hr.2 with ⟨h1, _, _⟩ | ⟨b, cap, cur, h1, h2, _⟩
  · subst h1; cases hk
  · subst h2; cases hk; exact ⟨_, h1⟩

/-- BACK: behind a law on append. -/
theorem RowV.back {w0 w w' : World} {H : Nat → Option (Nat × Obj)} {F : Nat → Option (Array Value × TypeId)} {r : Nat} {e : TypeId} {size : Nat} {v v' : Value} {n n' : Nat} {xs xs' : List Value}
    (hr : RowV (H r) e size v n xs) (hp : 0 < r) (h : St w0 w H F) (hown : w'.ownsRow w0.heap.size e size v' n' xs') (hg : w.grownBy w' v.ownBlock) (hat : v'.ownBlock = v.ownBlock ∨ v'.ownBlock = some w.heap.size) :
    ∃ h', St w0 w' (upd H r h') F ∧ RowV h' e size v' n' xs' := by
  have hkeep : ∀ k, k < w.heap.size → (∀ o, H r ≠ some (k, o)) → w'.heap[k]? = w.heap[k]? := fun k hk hn => hg.block k hk (fun e => by obtain ⟨o, ho⟩ := hr.block k e.symm; exact hn o ho)
  rcases hown.2 with ⟨h1, h2⟩ | ⟨g, cap, cur, h1, h2, h3, h4, h5, h6, h7⟩
  · refine ⟨none, h.turn hg.os hg.tape hg.output hg.size hp hkeep (fun b' o' e => by cases e), hown.1, Or.inl ⟨h1, h2, rfl⟩⟩
  · refine ⟨some (g, .cells cur e (0, 0)), h.turn hg.os hg.tape hg.output hg.size hp hkeep (fun b' o' he => ?_), hown.1, Or.inr ⟨g, cap, cur, rfl, h1, h4, h5, h6, h7⟩⟩
    cases he
    refine ⟨h3, ?_⟩
    subst h1
    rcases hat with hat | hat
    · exact Or.inr (hr.block g hat.symm)
    · cases hat; exact Or.inl (Nat.le_refl _)

/-- A cell of the row. -/
theorem RowV.cell {w0 w : World} {H : Nat → Option (Nat × Obj)} {F : Nat → Option (Array Value × TypeId)} {r b : Nat} {e : TypeId} {size n cap : Nat} {xs : List Value}
    (hr : RowV (H r) e size (.slice (some ⟨b, 0, none⟩) n cap) n xs) (h : St w0 w H F) {j : Nat} {u : Value} (hj : xs[j]? = some u) : w.cell? ⟨b, j, none⟩ = some u := by
  rcases hr.2 with ⟨h1, _, _⟩ | ⟨g, cap', cur, h1, h2, h3, h4, h5, h6⟩
  · cases h1
  · cases h2
    refine h.cell h1 ?_
    rw [← h6] at hj
    have : j < (List.take (n * size) cur.toList).length := (List.getElem?_eq_some_iff.1 hj).1
    rw [List.getElem?_take_of_lt (by simp at this; omega)] at hj
    simpa using hj

/-- APPEND, AS A LAW FOR THE WALK. -/
theorem wpList_append_st {P : Program} {w0 : World} (w : World) {H : Nat → Option (Nat × Obj)} {F : Nat → Option (Array Value × TypeId)} {ops : Array Oper} {rest : List Oper} {o : Oper} {a : Act} {Q : Exit → Act → World → Prop} (hgd : o.guard = none) (s x : Operand) (t : TypeId)
    (ho : o.op = .call { callee := .builtin .append, args := #[s, x], argTypes := #[t, t] })
    (r : Nat) (hp : 0 < r) (e : TypeId) (i : TypeInfo) (z : Value) (size bytes : Nat) (ht : P.underlying t = some (.slice e)) (hi : P.info? e = some i) (hz : i.zero = some z)
    (hsize : i.size = size) (hby : i.bytes = bytes) (hzs : z.cells.size = size) (hsz : 0 < size)
    (v : Value) (n : Nat) (xs : List Value) (hs : a.eval s = v) (hst : St w0 w H F) (hr : RowV (H r) e size v n xs)
    (ad : Addr) (m c : Nat) (news : List Value) (hx : a.eval x = .slice (some ad) m c) (hl : news.length = m * size) (hnews : ∀ j u, news[j]? = some u → w.cell? (ad.add j) = some u) (h1 : ∀ u ∈ news, u.oneCell' = true)
    (h63 : n + m ≤ maxLen) (hbytes : (n + m) * bytes ≤ 140737488355328)
    (h : ∀ v' w' h', Hid (St w0 w' (upd H r h') F) → Hid (RowV h' e size v' (n + m) (xs ++ news)) → Hid (v' = .slice none 0 0 ↔ v = .slice none 0 0 ∧ m = 0) → wpList P ops Q rest (a.put o.dst v') w') :
    wpList P ops Q (o :: rest) a w :=
  wpList_append_own_at w hgd s x t ho w0.heap.size e i z size bytes ht hi hz hsize hby hzs hsz v n xs hs (hr.owns hst) ad m c news hx hl hnews h1 h63 hbytes hst.size
    (fun v' w' hown hg hnil hat => by
      obtain ⟨h', hst', hr'⟩ := hr.back hp hst hown hg hat
      exact h v' w' h' hst' hr' hnil)

/-- A slice's value is nil or begins at a row's head. -/
theorem RowV.shape {h : Option (Nat × Obj)} {e : TypeId} {size : Nat} {v : Value} {n : Nat} {xs : List Value} (hr : RowV h e size v n xs) : (v = .slice none 0 0 ∧ n = 0) ∨ ∃ b cap, v = .slice (some ⟨b, 0, none⟩) n cap := by
  rcases hr.2 with ⟨h1, h2, _⟩ | ⟨b, cap, cur, _, h2, _⟩
  · exact Or.inl ⟨h1, h2⟩
  · exact Or.inr ⟨b, cap, h2⟩

/-- 's[:0]'. -/
def cut0 : Value → Value
  | .slice a _ c => .slice a 0 c
  | v => v

theorem RowV.cut {h : Option (Nat × Obj)} {e : TypeId} {size : Nat} {v : Value} {n : Nat} {xs : List Value} (hr : RowV h e size v n xs) : RowV h e size (cut0 v) 0 [] := by
  refine ⟨by simp, ?_⟩
  rcases hr.2 with ⟨h1, h2, h3⟩ | ⟨b, cap, cur, h1, h2, h3, h4, h5, h6⟩
  · subst h1; exact Or.inl ⟨rfl, rfl, h3⟩
  · subst h2; exact Or.inr ⟨b, cap, cur, h1, rfl, Nat.zero_le _, h4, h5, by simp⟩

theorem upd_upd {α : Type} (f : Nat → α) (k : Nat) (v v' : α) : upd (upd f k v) k v' = upd f k v' := by
  funext j; unfold upd; split <;> rfl

end Go.Proofs.Ybulkie
