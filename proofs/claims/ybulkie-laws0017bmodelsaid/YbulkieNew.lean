/-
  newSubsets (function 11).
-/
import Derived.Test.YbulkieMv
import Derived.Deep.RegionHeld3
import Derived.Deep.OwnRows
namespace Go.Proofs.Ybulkie
open Go.RowKit Go.Maps

def newSv (nb mb kb tb N K : Nat) (sy : Value) : Sv := { n := .pointer (some ⟨nb, 0, none⟩), syms := sy, limit := .int .i64 (N : Int), index := .map (some mb), sets := .slice none 0 0, moves := .slice none 0 0, mark := .slice (some ⟨kb, 0, none⟩) N N, marks := .int .i64 0, start := .slice none 0 0, stack := .slice none 0 0, reached := .slice none 0 0, key := .slice none 0 0, targets := .slice (some ⟨tb, 0, none⟩) K K, read := .slice none 0 0 }

def NewPost (w0 : World) (H : Nat → Option (Nat × Obj)) (F : Nat → Option (Array Value × TypeId)) (nb N K : Nat) (sy : Value) (e : Ending) (w' : World) : Prop :=
  ∃ sb mb kb tb H', e = .returned (.pointer (some ⟨sb, 0, none⟩)) ∧ St w0 w' H' F ∧ H' 1 = some (sb, .cells (newSv nb mb kb tb N K sy).arr 91 (0, 0)) ∧ H' 8 = some (kb, .cells (madeCells #[.int .i64 0] N) 3 (0, 0)) ∧ H' 9 = some (mb, .map #[] 0) ∧
    H' 10 = some (tb, .cells (madeCells #[.slice none 0 0] K) 89 (0, 0)) ∧ ∀ r, r ≠ 1 → r ≠ 8 → r ≠ 9 → r ≠ 10 → H' r = H r

theorem kept_alloc {w : World} {o : Obj} {a : Addr} {v : Value} (h : w.cell? a = some v) : (w.alloc o).cell? a = some v := by
  rw [World.cell?_alloc_some w a o (by rw [h]; rfl)]; exact h
theorem size_alloc' (w : World) (o : Obj) : (w.alloc o).heap.size = w.heap.size + 1 := by show (w.heap.push o).size = _; simp
theorem St.newAlloc4 {w0 w : World} {H : Nat → Option (Nat × Obj)} {F : Nat → Option (Array Value × TypeId)} (hst : St w0 w H F) (r1 r2 r3 : Nat) (p1 : 0 < r1) (p2 : 0 < r2) (p3 : 0 < r3) (o1 o2 o3 o4 : Obj) :
    St w0 ((((w.alloc o1).alloc o2).alloc o3).alloc o4).drew (upd (upd (upd (upd H r1 (some (w.heap.size, o1))) r2 (some (w.heap.size + 1, o2))) r3 (some (w.heap.size + 1 + 1, o3))) 1 (some (w.heap.size + 1 + 1 + 1, o4))) F := by
  have h1 := hst.newAlloc p1 o1
  have h2 := h1.newAlloc p2 o2
  have h3 := h2.newAlloc p3 o3
  have h4 := h3.newAlloc (r := 1) (by decide) o4
  simp only [size_alloc'] at h4
  exact h4.drew
theorem kept_drew {w : World} {a : Addr} {v : Value} (h : w.cell? a = some v) : w.drew.cell? a = some v := h

set_option maxRecDepth 100000 in
set_option maxHeartbeats 2000000 in
theorem new_any {w0 w : World} {H : Nat → Option (Nat × Obj)} {F : Nat → Option (Array Value × TypeId)} (hst : Hid (St w0 w H F)) (N K nb mb cs : Nat) (ay : Option Addr) (hN : N ≤ 1000) (hK : K ≤ 1000) (hF : Hid (F nb = some (#[.slice (some ⟨mb, 0, none⟩) N N], 86))) :
    Calls Yba.prog 11 #[.pointer (some ⟨nb, 0, none⟩), .slice ay K cs] w (NewPost w0 H F nb N K (.slice ay K cs)) := by
  have hk1 := run_make_row' (P := Yba.prog) 89 3 (.int .i64 0) 8 Yba.underlying89 info3 rfl .i64 .i64 N (by omega) (by omega)
  have hk2 := run_make_row' (P := Yba.prog) 88 89 (.slice none 0 0) 24 Yba.underlying88 info89 rfl .i64 .i64 K (by omega) (by omega)
  have hmm := @run_makeMap Yba.prog
  have c0 : w.cell? ⟨nb, 0, none⟩ = some (.slice (some ⟨mb, 0, none⟩) N N) := (unhide hst).cellRo (unhide hF) rfl
  go_enter Yba.func11, Yba.ntmps11
  go_upto_region 1 with fail
  go_region_held3 (fun w' => w'.cell? ⟨nb, 0, none⟩ = some (.slice (some ⟨mb, 0, none⟩) N N)) (first | assumption | exact kept_drew c0 | exact kept_drew (kept_alloc c0) | exact kept_drew (kept_alloc (kept_alloc c0)) | exact kept_drew (kept_alloc (kept_alloc (kept_alloc c0))) | exact kept_drew (kept_alloc (kept_alloc (kept_alloc (kept_alloc c0))))) (fail)
  all_goals go_wp2
  all_goals go_ret
  all_goals (first
    | exact ⟨w.heap.size + 1 + 1 + 1, w.heap.size, w.heap.size + 1, w.heap.size + 1 + 1, _, rfl, (unhide hst).newAlloc4 9 8 10 (by decide) (by decide) (by decide) _ _ _ _, by rw [upd_same]; rfl, by simp [upd], by simp [upd], by simp [upd], fun r h1 h8 h9 h10 => by simp [upd, h1, h8, h9, h10]⟩
    | exact ⟨w.heap.size + 1 + 1 + 1, w.heap.size, w.heap.size + 1 + 1, w.heap.size + 1, _, rfl, (unhide hst).newAlloc4 9 10 8 (by decide) (by decide) (by decide) _ _ _ _, by rw [upd_same]; rfl, by simp [upd], by simp [upd], by simp [upd], fun r h1 h8 h9 h10 => by simp [upd, h1, h8, h9, h10]⟩
    | exact ⟨w.heap.size + 1 + 1 + 1, w.heap.size + 1, w.heap.size, w.heap.size + 1 + 1, _, rfl, (unhide hst).newAlloc4 8 9 10 (by decide) (by decide) (by decide) _ _ _ _, by rw [upd_same]; rfl, by simp [upd], by simp [upd], by simp [upd], fun r h1 h8 h9 h10 => by simp [upd, h1, h8, h9, h10]⟩
    | exact ⟨w.heap.size + 1 + 1 + 1, w.heap.size + 1 + 1, w.heap.size, w.heap.size + 1, _, rfl, (unhide hst).newAlloc4 8 10 9 (by decide) (by decide) (by decide) _ _ _ _, by rw [upd_same]; rfl, by simp [upd], by simp [upd], by simp [upd], fun r h1 h8 h9 h10 => by simp [upd, h1, h8, h9, h10]⟩
    | exact ⟨w.heap.size + 1 + 1 + 1, w.heap.size + 1, w.heap.size + 1 + 1, w.heap.size, _, rfl, (unhide hst).newAlloc4 10 9 8 (by decide) (by decide) (by decide) _ _ _ _, by rw [upd_same]; rfl, by simp [upd], by simp [upd], by simp [upd], fun r h1 h8 h9 h10 => by simp [upd, h1, h8, h9, h10]⟩
    | exact ⟨w.heap.size + 1 + 1 + 1, w.heap.size + 1 + 1, w.heap.size + 1, w.heap.size, _, rfl, (unhide hst).newAlloc4 10 8 9 (by decide) (by decide) (by decide) _ _ _ _, by rw [upd_same]; rfl, by simp [upd], by simp [upd], by simp [upd], fun r h1 h8 h9 h10 => by simp [upd, h1, h8, h9, h10]⟩)
end Go.Proofs.Ybulkie
