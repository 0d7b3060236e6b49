/-
  THE BUILD OF THE LAW's SLICE OF ENTRIES (cache.zzs0013cbuild): a row of pointers, each to an entry in a block of its own.
-/
import Derived.Test.YbulkgaRows
import Derived.WalkKit
import Derived.WalkSpells
import Derived.Deep.OwnRows
namespace Go.Proofs.Ybulkga
open Go.RowKit

theorem hide {p : Prop} (h : p) : Hid p := h
theorem unhide {p : Prop} (h : Hid p) : p := h
theorem info32 : (Yba.prog.info? 32).map (fun i => (i.zero, i.size, i.bytes)) = some (some (.pointer none), 1, 8) := by kernel_rfl

/-- An entry of the cache in a block of its own, its index x. -/
def EntryAt (w : World) (b : Nat) (x : Int) : Prop := ∃ f, w.rowIs b 45 41 f ∧ f 40 = .int .i64 x

def ptr (b : Nat) : Value := .pointer (some ⟨b, 0, none⟩)

/-- What one round of the build does to the relation. -/
theorem build_step (zs : List Int) {w wr : World} {n k : Nat} (hlt : k < n) (HS : Hid (wr.heap.size = w.heap.size + 1 + k))
    (HR : Hid (wr.rowIs w.heap.size 32 n (fun j => if j < k then ptr (w.heap.size + 1 + j) else .pointer none))) (HE : Hid (∀ j, j < k → EntryAt wr (w.heap.size + 1 + j) (zs.getD j 0))) (hnx : Below w.heap.size w wr)
    (c : Array Value) (hcs : c.size = 41) (hcx : c[40]? = some (.int .i64 (zs.getD k 0))) :
    Hid (((wr.setCell ⟨w.heap.size, k, none⟩ (.pointer (some ⟨wr.heap.size, 0, none⟩))).alloc (.cells c 45)).heap.size = w.heap.size + 1 + (k + 1)) ∧
    Hid (((wr.setCell ⟨w.heap.size, k, none⟩ (.pointer (some ⟨wr.heap.size, 0, none⟩))).alloc (.cells c 45)).rowIs w.heap.size 32 n (fun j => if j < k + 1 then ptr (w.heap.size + 1 + j) else .pointer none)) ∧
    Hid (∀ j, j < k + 1 → EntryAt ((wr.setCell ⟨w.heap.size, k, none⟩ (.pointer (some ⟨wr.heap.size, 0, none⟩))).alloc (.cells c 45)) (w.heap.size + 1 + j) (zs.getD j 0)) ∧
    Below w.heap.size w ((wr.setCell ⟨w.heap.size, k, none⟩ (.pointer (some ⟨wr.heap.size, 0, none⟩))).alloc (.cells c 45)) := by
  have hs := unhide HS
  have hsz : (wr.setCell ⟨w.heap.size, k, none⟩ (.pointer (some ⟨wr.heap.size, 0, none⟩))).heap.size = wr.heap.size := by simp [World.setCell]
  refine ⟨hide ?_, hide ?_, hide ?_, ?_⟩
  · simp [hs]; omega
  · refine (((unhide HR).set k _).alloc _).congr (fun i hi => ?_)
    by_cases e : i = k
    · subst e; simp [ptr, hs]
    · rw [if_neg e]
      by_cases e2 : i < k
      · rw [if_pos e2, if_pos (by omega)]
      · rw [if_neg e2, if_neg (by omega)]
  · intro j hj
    by_cases e : j < k
    · obtain ⟨f, hf, hx⟩ := unhide HE j e
      exact ⟨f, (hf.setOther (by simp; omega) _).alloc _, hx⟩
    · obtain rfl : j = k := by omega
      refine ⟨fun i => c.getD i (.bool false), ?_, ?_⟩
      · have hr := World.rowIs_alloc (wr.setCell ⟨w.heap.size, j, none⟩ (.pointer (some ⟨wr.heap.size, 0, none⟩))) c 45 (fun i => c.getD i (.bool false)) (fun i hi => by simp [Array.getD, hi])
        rw [hcs, hsz] at hr
        have e : w.heap.size + 1 + j = wr.heap.size := by omega
        rw [e]
        exact hr
      · show c.getD 40 (.bool false) = _
        rw [Array.getD_eq_getD_getElem?, hcx]; rfl
  · exact (hnx.setCell (Nat.le_refl _) _).alloc (by rw [hsz]; omega) _

set_option maxHeartbeats 800000 in
theorem build_any (b off n cap : Nat) (zs : List Int) (w : World) (hn : n ≤ 1024) (hbw : b < w.heap.size)
    (hc : ∀ k, k < n → w.cell? ⟨b, off + k, none⟩ = some (.int .i64 (zs.getD k 0))) :
    Calls Yba.prog 9 #[.slice (some ⟨b, off, none⟩) n cap] w fun e w' => e = .returned (.slice (some ⟨w.heap.size, 0, none⟩) n n) ∧ w'.heap.size = w.heap.size + 1 + n ∧
      w'.rowIs w.heap.size 32 n (fun j => ptr (w.heap.size + 1 + j)) ∧ (∀ j, j < n → EntryAt w' (w.heap.size + 1 + j) (zs.getD j 0)) ∧ Below w.heap.size w w' := by
  have hmk := fun w => run_make_row' (P := Yba.prog) 29 32 (.pointer none) 8 Yba.underlying29 info32 rfl .i64 .i64 n (by omega) (by omega) w
  go_enter Yba.func9, Yba.ntmps9
  go_wp2
  have hrow := World.rowIs_made w (.pointer none) n 32
  have hb0 : Below w.heap.size w (w.alloc (.cells (madeCells #[.pointer none] n) 32)) := (Below.refl _ _).alloc (Nat.le_refl _) _
  have hs0 : (w.alloc (.cells (madeCells #[.pointer none] n) 32)).heap.size = w.heap.size + 1 := by simp
  generalize w.alloc (.cells (madeCells #[.pointer none] n) 32) = w1 at hrow hb0 hs0 ⊢
  go_loopw [4] (fun i wr => ∃ k : Nat, k ≤ n ∧ i = .int .i64 k ∧ Hid (wr.heap.size = w.heap.size + 1 + k) ∧ Hid (wr.rowIs w.heap.size 32 n (fun j => if j < k then ptr (w.heap.size + 1 + j) else .pointer none)) ∧ Hid (∀ j, j < k → EntryAt wr (w.heap.size + 1 + j) (zs.getD j 0)) ∧ Below w.heap.size w wr) (fun i _ => n - (intOf i).toNat)
  case atStart => exact ⟨0, Nat.zero_le _, rfl, hs0, hrow, (fun j hj => by omega), hb0⟩
  case round =>
    obtain ⟨k, hk, rfl, HS, HR, HE, hnx⟩ := hrel
    by_cases hlt : k < n
    · have hcx : wr.cell? ⟨b, off + k, none⟩ = some (.int .i64 (zs.getD k 0)) := (hnx.cell (by exact hbw)).trans (hc k hlt)
      have hcB : wr.cell? ⟨w.heap.size, k, none⟩ = some (.pointer none) := by
        have := (unhide HR).cell hlt
        simpa using this
      have hfB : wr.frozen? ⟨w.heap.size, k, none⟩ = false := (unhide HR).frozen k
      have hlB : w.heap.size < wr.heap.size := (unhide HR).lt
      have hlb : b < wr.heap.size := by omega
      go_wp2
      go_roundw
      case rel => exact ⟨k + 1, by omega, by go_num, build_step zs hlt HS HR HE hnx _ rfl rfl⟩
      case measure => simp [intOf]; omega
    · have hkn : k = n := by omega
      subst hkn
      go_wp2
      go_ret
      exact ⟨rfl, unhide HS, (unhide HR).congr (fun i hi => by simp [hi]), unhide HE, hnx⟩
end Go.Proofs.Ybulkga
