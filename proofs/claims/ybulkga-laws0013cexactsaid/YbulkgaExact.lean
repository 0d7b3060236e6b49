/-
  THE WALK OF cache.LawS0013CExact at a slice that is not empty.
-/
import Derived.Test.YbulkgaCopy
import Derived.Lib.Builder
namespace Go.Proofs.Ybulkga
open Go.RowKit

theorem size45 : (Yba.prog.info? 45).map (·.size) = some 41 := by kernel_rfl
theorem neq_same (w : World) (a : Addr) : (binOp .neq 32 (.pointer (some a)) (.pointer (some a))).run Yba.prog w = .ok (.bool false) w := by
  obtain ⟨j, hj, _⟩ := Option.map_eq_some_iff.1 size45
  exact Lib.run_neq_ptr_same w a Yba.underlying32 hj

/-- The built row, behind the copy, in the words of 'Laid'. -/
theorem laid_built {w w1 w2 : World} {n : Nat} {zs : List Int} (hs : w1.heap.size = w.heap.size + 1 + n) (hrow : w1.rowIs w.heap.size 32 n (fun j => ptr (w.heap.size + 1 + j)))
    (hent : ∀ j, j < n → EntryAt w1 (w.heap.size + 1 + j) (zs.getD j 0)) (hb : Below w1.heap.size w1 w2) :
    Laid w.heap.size w2 w.heap.size n (fun j => w.heap.size + 1 + j) (fun j => zs.getD j 0) :=
  ⟨hrow.of_block (hb.block _ (by omega)), fun j hj => (hent j hj).of_block (hb.block _ (by omega)), fun j hj => by omega, fun i j hi hj h => by omega, Nat.le_refl _, fun j hj => by omega⟩

set_option maxHeartbeats 1600000 in
theorem exact_some (b off n cap : Nat) (zs : List Int) (a1 a2 : Int) (w : World) (hn : n ≤ 1024) (hn0 : 0 < n) (hbw : b < w.heap.size)
    (l1 : 0 ≤ a1) (u1 : a1 ≤ 18446744073709551615) (l2 : 0 ≤ a2) (u2 : a2 ≤ 18446744073709551615)
    (hc : ∀ k, k < n → w.cell? ⟨b, off + k, none⟩ = some (.int .i64 (zs.getD k 0))) :
    Calls Yba.prog 5 #[.slice (some ⟨b, off, none⟩) n cap, .int .u64 a1, .int .u64 a2] w fun e w' => e = .returned (.bool true) ∧ Below w.heap.size w w' := by
  have e0 : ((n : Int) == 0) = false := beq_eq_false_iff_ne.2 (by omega)
  obtain ⟨A, hA, hAn⟩ : ∃ A : Nat, a1 % (n : Int) = (A : Int) ∧ A < n := ⟨(a1 % n).toNat, by have := Int.emod_nonneg a1 (show (n : Int) ≠ 0 by omega); omega, by have := Int.emod_lt_of_pos a1 (show (0 : Int) < n by omega); have := Int.emod_nonneg a1 (show (n : Int) ≠ 0 by omega); omega⟩
  obtain ⟨C, hC, hCn⟩ : ∃ C : Nat, a2 % (n : Int) = (C : Int) ∧ C < n := ⟨(a2 % n).toNat, by have := Int.emod_nonneg a2 (show (n : Int) ≠ 0 by omega); omega, by have := Int.emod_lt_of_pos a2 (show (0 : Int) < n by omega); have := Int.emod_nonneg a2 (show (n : Int) ≠ 0 by omega); omega⟩
  have hmk := fun w => run_make_row' (P := Yba.prog) 28 32 (.pointer none) 8 Yba.underlying28 info32 rfl .i64 .i64 n (by omega) (by omega) w
  go_enter Yba.func5, Yba.ntmps5
  go_wp2_with fail
  refine (build_any b off n cap zs _ hn hbw hc).mono ?_
  rintro e w1 ⟨rfl, hsz, hrow, hent, hbel⟩
  have HS := hide hsz
  clear hsz
  obtain ⟨w2, hcp, hold, hsz2, hbel2⟩ := copy_old hrow
  have L2 : Laid w.heap.size w2 w.heap.size n (fun j => w.heap.size + 1 + j) (fun j => zs.getD j 0) := laid_built (unhide HS) hrow hent hbel2
  have HO := hide hsz2
  clear hsz2
  go_wp2_with fail
  refine (swap_any L2 A C hn hAn hCn).mono ?_
  rintro r w3 ⟨rfl, L3, hsz3, hoth, hbel3⟩
  clear hsz3 hcp hmk
  have hold3 : w3.rowIs w1.heap.size 32 n (fun j => ptr (w.heap.size + 1 + j)) := hold.of_block (hoth _ (by have := unhide HS; omega) (fun j hj => by have := unhide HS; omega))
  have hbw3 : Below w.heap.size w w3 := (hbel.trans (hbel2.mono hbel.size)).trans hbel3
  clear hold hoth hbel hbel2 hbel3 hent hrow L2
  have hneq := fun (w : World) (x : Addr) => neq_same w x
  go_wp2
  go_loop [12] (fun i => ∃ k : Nat, k ≤ n ∧ i = .int .i64 k) (fun i => n - (intOf i).toNat)
  case atStart => exact ⟨0, Nat.zero_le _, rfl⟩
  case round =>
    obtain ⟨k, hk, rfl⟩ := hrel
    by_cases hlt : k < n
    · have c1 : w3.cell? ⟨b, off + k, none⟩ = some (.int .i64 (zs.getD k 0)) := (hbw3.cell (by exact hbw)).trans (hc k hlt)
      have c2 : w3.cell? ⟨w1.heap.size, k, none⟩ = some (.pointer (some ⟨w.heap.size + 1 + k, 0, none⟩)) := hold3.cell hlt
      have c3 : w3.cell? ⟨w1.heap.size, A, none⟩ = some (.pointer (some ⟨w.heap.size + 1 + A, 0, none⟩)) := hold3.cell hAn
      have c4 : w3.cell? ⟨w1.heap.size, C, none⟩ = some (.pointer (some ⟨w.heap.size + 1 + C, 0, none⟩)) := hold3.cell hCn
      have c5 := L3.row.cell hlt
      have c6 := (L3.entry k hlt).cell
      by_cases hkA : k = A
      · subst hkA
        have e1 : sw k C k = C := by simp [sw]
        have e2 : swx k C (fun j => zs.getD j 0) k = (k : Int) := by simp [swx]
        rw [e1] at c5 c6
        rw [e2] at c6
        simp only [ptr] at c5
        clear e1 e2
        have t1 : ((k : Int) == (k : Int)) = true := by simp
        go_wp2
        go_round
        case rel => exact ⟨k + 1, by omega, by go_num⟩
        case measure => simp [intOf]; omega
      · have t1 : ((k : Int) == (A : Int)) = false := beq_eq_false_iff_ne.2 (by omega)
        by_cases hkC : k = C
        · subst hkC
          have e1 : sw A k k = A := by simp [sw, hkA]
          have e2 : swx A k (fun j => zs.getD j 0) k = (k : Int) := by simp [swx, hkA]
          rw [e1] at c5 c6
          rw [e2] at c6
          simp only [ptr] at c5
          clear e1 e2
          have t2 : ((k : Int) == (k : Int)) = true := by simp
          go_wp2
          go_round
          case rel => exact ⟨k + 1, by omega, by go_num⟩
          case measure => simp [intOf]; omega
        · have t2 : ((k : Int) == (C : Int)) = false := beq_eq_false_iff_ne.2 (by omega)
          have e1 : sw A C k = k := by simp [sw, hkA, hkC]
          have e2 : swx A C (fun j => zs.getD j 0) k = zs.getD k 0 := by simp [swx, hkA, hkC]
          rw [e1] at c5 c6
          rw [e2] at c6
          simp only [ptr] at c5
          clear e1 e2
          go_wp2
          go_round
          case rel => exact ⟨k + 1, by omega, by go_num⟩
          case measure => simp [intOf]; omega
    · go_wp2
      go_ret
      exact ⟨rfl, hbw3⟩
end Go.Proofs.Ybulkga
