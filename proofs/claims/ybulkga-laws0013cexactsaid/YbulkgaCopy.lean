/-
  'old := make([]*entry, n); copy(old, d)': a second row of the same pointers.
-/
import Derived.Test.YbulkgaSwap
import Derived.Laws.CopyOwn
import Derived.WideShapes
namespace Go.Proofs.Ybulkga
open Go.RowKit

theorem copy_old {w : World} {D n : Nat} {e : Nat → Nat} (hr : w.rowIs D 32 n (fun j => ptr (e j))) :
    ∃ w2, (Builtin.copy_ #[28, 29] 3 #[.slice (some ⟨w.heap.size, 0, none⟩) n n, .slice (some ⟨D, 0, none⟩) n n]).run Yba.prog (w.alloc (.cells (madeCells #[.pointer none] n) 32)) = .ok (.int .i64 n) w2 ∧
      w2.rowIs w.heap.size 32 n (fun j => ptr (e j)) ∧ w2.heap.size = w.heap.size + 1 ∧ Below w.heap.size w w2 := by
  have hsz : (Yba.prog.info? 32).map (·.size) = some 1 := by kernel_rfl
  have hnew := World.rowIs_made w (.pointer none) n 32
  obtain ⟨cur, hcur, hcs, hcc⟩ := hnew
  have hrun := run_copy_row (P := Yba.prog) (w.alloc (.cells (madeCells #[.pointer none] n) 32)) 28 29 3 32 w.heap.size 0 n n ⟨D, 0, none⟩ n n cur 32 ((List.range n).map (fun j => ptr (e j))) Yba.underlying28 hsz hcur (by simp)
    (fun j v hj => by
      have hjn : j < n := by
        have := (List.getElem?_eq_some_iff.1 hj).1
        simpa using this
      have hv : v = ptr (e j) := by
        simp [hjn] at hj
        exact hj.symm
      have := (hr.alloc (.cells (madeCells #[.pointer none] n) 32)).cell hjn
      rw [hv]
      rw [Go.WideShapes.add_plain, Nat.zero_add]; exact this) (by simp [hcs]) (fun v hv => by obtain ⟨j, _, rfl⟩ := List.mem_map.1 hv; rfl)
  have e2 : (cur.toList.take 0 ++ (List.range n).map (fun j => ptr (e j)) ++ cur.toList.drop (0 + ((List.range n).map (fun j => ptr (e j))).length)).toArray = ((List.range n).map (fun j => ptr (e j))).toArray := by simp [hcs]
  rw [e2] at hrun
  refine ⟨(w.alloc (.cells (madeCells #[.pointer none] n) 32)).setRow w.heap.size ((List.range n).map (fun j => ptr (e j))).toArray, ?_, ?_, ?_, ?_⟩
  · rw [hrun]; simp [goInt]
  · exact ⟨_, setRow_heap _ _ _ _ _ _ hcur, by simp, fun i hi => by simp [hi]⟩
  · simp
  · exact below_setRow ((Below.refl _ _).alloc (Nat.le_refl _) _) (Nat.le_refl _) _
end Go.Proofs.Ybulkga
