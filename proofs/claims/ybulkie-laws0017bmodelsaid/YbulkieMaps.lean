/-
  MAPS OF THE CALL's OWN, ELEMENTS int, in the words of the roles.
-/
import Derived.Test.YbulkieRows
import Derived.Test.YbulkieMem
import Derived.Maps.OwnSet
import Derived.Maps.OwnOps
namespace Go.Proofs.Ybulkie
open Go.RowKit Go.Maps

theorem lawS : Keyed Yba.prog 9 := string_keyed Yba.underlying9
theorem lawI : Keyed Yba.prog 3 := int_keyed Yba.underlying3
theorem zero3 (w : World) : (zeroValue 3).run Yba.prog w = .ok (.int .i64 0) w := by kernel_rfl

/-- What a map holds. -/
def updL (g : Lit → Option Int) (k : Lit) (v : Int) : Lit → Option Int := fun j => if j.sameKey k = true then some v else g j

theorem sameKey_self {k : Lit} (h : WideAt.IsKeyLit k) : k.sameKey k = true := by
  cases k <;> simp_all [WideAt.IsKeyLit, Lit.sameKey]
theorem updL_same (g : Lit → Option Int) {k : Lit} (h : WideAt.IsKeyLit k) (v : Int) : updL g k v k = some v := by simp [updL, sameKey_self h]
theorem updL_other (g : Lit → Option Int) {k j : Lit} (h : j ≠ k) (v : Int) : updL g k v j = g j := by simp [updL, sameKey_ne h]

def MapV (kT : TypeId) (h : Option (Nat × Obj)) (mb n : Nat) (g : Lit → Option Int) : Prop :=
  ∃ es clock, h = some (mb, .map es clock) ∧ ∃ D : DataW Unit, (∀ w : World, w.heap[mb]? = some (.map es clock) → w.ownsMap Yba.prog kT (plainElem Yba.prog 3) mb n D) ∧
    ∀ kl, Maps.has D kl = (g kl).isSome ∧ D.atKey kl (.lit (.int .i64 0)) = .lit (.int .i64 ((g kl).getD 0))

theorem ownsMap_block {P : Program} {k : TypeId} {R : Value → Option (DataW Unit × List MemPlace)} {w w' : World} {b n : Nat} {D : DataW Unit} (h : w.ownsMap P k R b n D) (e : w'.heap[b]? = w.heap[b]?) : w'.ownsMap P k R b n D := by
  obtain ⟨es, clock, hb, F, hs, hD⟩ := h
  exact ⟨es, clock, e.trans hb, F, hs, hD⟩

theorem MapV.mk {w : World} {kT : TypeId} {mb n : Nat} {D : DataW Unit} {g : Lit → Option Int} (h : w.ownsMap Yba.prog kT (plainElem Yba.prog 3) mb n D)
    (hg : ∀ kl, Maps.has D kl = (g kl).isSome ∧ D.atKey kl (.lit (.int .i64 0)) = .lit (.int .i64 ((g kl).getD 0))) : ∃ o, w.heap[mb]? = some o ∧ MapV kT (some (mb, o)) mb n g := by
  have h0 := h
  obtain ⟨es, clock, hb, _⟩ := h0
  exact ⟨_, hb, es, clock, rfl, D, fun w' hw' => ownsMap_block h (hw'.trans hb.symm), hg⟩

theorem MapV.block {kT : TypeId} {h : Option (Nat × Obj)} {mb n : Nat} {g : Lit → Option Int} (hm : MapV kT h mb n g) : ∃ o, h = some (mb, o) := by
  obtain ⟨es, clock, e, _⟩ := hm
  exact ⟨_, e⟩

/-- A new map. -/
theorem MapV.new (kT : TypeId) (mb : Nat) : MapV kT (some (mb, .map #[] 0)) mb 0 (fun _ => none) := by
  refine ⟨#[], 0, rfl, .map [], fun w hw => ?_, fun kl => ⟨rfl, rfl⟩⟩
  exact ⟨#[], 0, hw, ⟨by simp, Go.MapKept.stamped_empty 0, by simp⟩, Nat.le_refl _, rfl⟩

theorem MapV.look {w0 w : World} {H : Nat → Option (Nat × Obj)} {F : Nat → Option (Array Value × TypeId)} (hst : St w0 w H F) {r : Nat} {kT T : TypeId} {mb n : Nat} {g : Lit → Option Int} (hm : MapV kT (H r) mb n g) (K : Keyed Yba.prog kT)
    (hT : Yba.prog.underlying T = some (.map kT 3)) {key : Value} {kl : Lit} (hkey : keyOf Yba.prog kT key = some kl) :
    (Instr.lookup T (.map (some mb)) key true).run Yba.prog w = .ok (.tuple #[.int .i64 ((g kl).getD 0), .bool (g kl).isSome]) w := by
  obtain ⟨es, clock, e, D, hown, hg⟩ := hm
  have h1 := hown w (hst.block e)
  obtain ⟨v, ps, hrun, hv⟩ := h1.look_ok K hT (zero3 w) (plainElem_int Yba.underlying3 (by decide)) hkey
  rw [(hg kl).2] at hv
  obtain ⟨a, rfl, ha, _⟩ := plainElem_int_inv Yba.underlying3 hv
  simp only [Prod.mk.injEq, DataW.lit.injEq, Lit.int.injEq, true_and] at ha
  rw [hrun, (hg kl).1, ha.1]

theorem MapV.store {w0 w : World} {H : Nat → Option (Nat × Obj)} {F : Nat → Option (Array Value × TypeId)} (hst : St w0 w H F) {r : Nat} {kT T : TypeId} {mb n : Nat} {g : Lit → Option Int} (hm : MapV kT (H r) mb n g) (K : Keyed Yba.prog kT)
    (hT : Yba.prog.underlying T = some (.map kT 3)) {key : Value} {kl : Lit} (hkey : keyOf Yba.prog kT key = some kl) (hkl : WideAt.IsKeyLit kl) (hn : n < maxLen) (v : Int) (hv : (Lit.int .i64 v).wf = true) :
    ∃ w', (Instr.mapUpdate T (.map (some mb)) key (.int .i64 v)).run Yba.prog w = .ok () w' ∧ ∃ h', St w0 w' (upd H r h') F ∧ MapV kT h' mb (n + 1) (updL g kl v) := by
  obtain ⟨es, clock, e, D, hown, hg⟩ := hm
  have h1 := hown w (hst.block e)
  obtain ⟨w', hrun, h2, h3⟩ := h1.update K hT hn hkey (plainElem_int Yba.underlying3 hv)
  have hD : IsMap D := h1.isMap
  obtain ⟨o, ho, hm'⟩ := MapV.mk (g := updL g kl v) h2 (fun k' => by
    by_cases ek : k' = kl
    · subst ek
      rw [has_put_same hD hkl, atKey_put_same hD hkl]
      simp [updL, sameKey_self hkl]
    · rw [has_put_other ek, atKey_put_other ek]
      simp [updL, sameKey_ne ek, (hg k').1, (hg k').2])
  refine ⟨w', hrun, some (mb, o), ?_, hm'⟩
  refine hst.turn h3.os h3.tape h3.output h3.size (hst.pos e) (fun k hk hne => h3.block k hk (fun ee => hne _ (by cases ee; exact e))) (fun b' o' ee => ?_)
  cases ee
  exact ⟨ho, Or.inr ⟨_, e⟩⟩

end Go.Proofs.Ybulkie
