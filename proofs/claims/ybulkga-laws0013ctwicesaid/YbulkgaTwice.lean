/-
  THE WALK OF cache.LawS0013CTwice at a slice that is not empty.
-/
import Derived.Test.YbulkgaExact
import Derived.BigQuiet
import Derived.Deep.QuietTactic
import Derived.WalkSmall
namespace Go.Proofs.Ybulkga
open Go.RowKit

theorem sw_sw (a b j : Nat) : sw a b (sw a b j) = j := by
  unfold sw
  by_cases h1 : j = a
  · subst h1; simp
  · by_cases h2 : j = b
    · subst h2; simp [h1]
    · simp [h1, h2]

theorem swx_b (a b : Nat) (x : Nat → Int) : swx a b x b = (b : Int) := by
  unfold swx
  by_cases h : b = a
  · simp [h]
  · simp [h]
theorem swx_a (a b : Nat) (x : Nat → Int) : swx a b x a = (a : Int) := by simp [swx]

set_option maxHeartbeats 1600000 in
theorem twice_some (b off n cap : Nat) (zs : List Int) (a1 a2 : Int) (w : World) (hn : n ≤ 1024) (hn0 : 0 < n) (hbw : b < w.heap.size)
    (l1 : 0 ≤ a1) (u1 : a1 ≤ 18446744073709551615) (l2 : 0 ≤ a2) (u2 : a2 ≤ 18446744073709551615)
    (hc : ∀ k, k < n → w.cell? ⟨b, off + k, none⟩ = some (.int .i64 (zs.getD k 0))) :
    Calls Yba.prog 6 #[.slice (some ⟨b, off, none⟩) n cap, .int .u64 a1, .int .u64 a2] w fun e w' => e = .returned (.bool true) ∧ Below w.heap.size w w' := by
  have e0 : ((n : Int) == 0) = false := beq_eq_false_iff_ne.2 (by omega)
  obtain ⟨A, hA, hAn⟩ : ∃ A : Nat, a1 % (n : Int) = (A : Int) ∧ A < n := ⟨(a1 % n).toNat, by have := Int.emod_nonneg a1 (show (n : Int) ≠ 0 by omega); omega, by have := Int.emod_lt_of_pos a1 (show (0 : Int) < n by omega); have := Int.emod_nonneg a1 (show (n : Int) ≠ 0 by omega); omega⟩
  obtain ⟨C, hC, hCn⟩ : ∃ C : Nat, a2 % (n : Int) = (C : Int) ∧ C < n := ⟨(a2 % n).toNat, by have := Int.emod_nonneg a2 (show (n : Int) ≠ 0 by omega); omega, by have := Int.emod_lt_of_pos a2 (show (0 : Int) < n by omega); have := Int.emod_nonneg a2 (show (n : Int) ≠ 0 by omega); omega⟩
  have hmk := fun w => run_make_row' (P := Yba.prog) 28 32 (.pointer none) 8 Yba.underlying28 info32 rfl .i64 .i64 n (by omega) (by omega) w
  go_enter Yba.func6, Yba.ntmps6
  go_wp2_with fail
  refine (build_any b off n cap zs _ hn hbw hc).mono ?_
  rintro e w1 ⟨rfl, hsz, hrow, hent, hbel⟩
  have HS := hide hsz
  clear hsz
  obtain ⟨w2, hcp, hold, hsz2, hbel2⟩ := copy_old hrow
  have L2 : Laid w.heap.size w2 w.heap.size n (fun j => w.heap.size + 1 + j) (fun j => zs.getD j 0) := laid_built (unhide HS) hrow hent hbel2
  have HO := hide hsz2
  clear hsz2
  go_wp2_with fail
  refine (swap_any L2 A C hn hAn hCn).mono ?_
  rintro r w3 ⟨rfl, L3, hsz3, hoth, hbel3⟩
  clear hcp hmk
  have hold3 : w3.rowIs w1.heap.size 32 n (fun j => ptr (w.heap.size + 1 + j)) := hold.of_block (hoth _ (by have := unhide HS; omega) (fun j hj => by have := unhide HS; omega))
  have hbw3 : Below w.heap.size w w3 := (hbel.trans (hbel2.mono hbel.size)).trans hbel3
  clear hold hoth hbel hbel2 hbel3 hent hrow L2 hsz3
  go_wp2_with fail
  refine (swap_any L3 A C hn hAn hCn).mono ?_
  rintro r w4 ⟨rfl, L4, hsz4, hoth4, hbel4⟩
  have hold4 : w4.rowIs w1.heap.size 32 n (fun j => ptr (w.heap.size + 1 + j)) := hold3.of_block (hoth4 _ (by have := unhide HS; omega) (fun j hj => by have := unhide HS; have := sw_lt hAn hCn hj; omega))
  have hbw4 : Below w.heap.size w w4 := hbw3.trans hbel4
  clear hold3 hoth4 hbel4 hsz4 L3 hbw3
  have hneq := fun (w : World) (x : Addr) => neq_same w x
  have cA : w4.cell? ⟨w.heap.size, A, none⟩ = some (.pointer (some ⟨w.heap.size + 1 + A, 0, none⟩)) := by have := L4.row.cell hAn; simpa only [sw_sw, ptr] using this
  have cC : w4.cell? ⟨w.heap.size, C, none⟩ = some (.pointer (some ⟨w.heap.size + 1 + C, 0, none⟩)) := by have := L4.row.cell hCn; simpa only [sw_sw, ptr] using this
  have xA : w4.cell? ⟨w.heap.size + 1 + A, 40, none⟩ = some (.int .i64 A) := by have := (L4.entry A hAn).cell; simpa only [sw_sw, swx_a] using this
  have xC : w4.cell? ⟨w.heap.size + 1 + C, 40, none⟩ = some (.int .i64 C) := by have := (L4.entry C hCn).cell; simpa only [sw_sw, swx_b] using this
  have hai : (A : Int) < n := by omega
  have hci : (C : Int) < n := by omega
  go_wp2
  go_loopw [12] (fun i wr => ∃ k : Nat, k ≤ n ∧ i = .int .i64 k ∧ ∃ m, wr = w4.drewN m) (fun i _ => n - (intOf i).toNat)
  case atStart => exact ⟨0, Nat.zero_le _, rfl, 0, rfl⟩
  case round =>
    obtain ⟨k, hk, rfl, m, rfl⟩ := hrel
    by_cases hlt : k < n
    · have c2 : w4.cell? ⟨w1.heap.size, k, none⟩ = some (.pointer (some ⟨w.heap.size + 1 + k, 0, none⟩)) := hold4.cell hlt
      have c5 : w4.cell? ⟨w.heap.size, k, none⟩ = some (.pointer (some ⟨w.heap.size + 1 + k, 0, none⟩)) := by have := L4.row.cell hlt; simpa only [sw_sw, ptr] using this
      have hki : (k : Int) < n := by omega
      go_wp2
      go_quiet (fail)
      go_wp2
      go_roundw
      case rel => exact ⟨k + 1, by omega, by go_num, _, rfl⟩
      case measure => simp [intOf]; omega
    · go_wp2
      go_ret
      exact ⟨rfl, below_drewN hbw4 _⟩
end Go.Proofs.Ybulkga
