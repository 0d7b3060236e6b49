/-
  THE WALK OF cache.deadlines.Swap over such a row.
-/
import Derived.Test.YbulkgaBuild
import Derived.RegionTactic
import Derived.ChangeAlike
namespace Go.Proofs.Ybulkga
open Go.RowKit

set_option maxHeartbeats 800000 in
theorem swap_other (D n a b ea eb : Nat) (xa xb : Int) (w : World) (_hn : n ≤ 1024) (ha : a < n) (hb : b < n) (hab : a ≠ b)
    (hca : w.cell? ⟨D, a, none⟩ = some (.pointer (some ⟨ea, 0, none⟩))) (hcb : w.cell? ⟨D, b, none⟩ = some (.pointer (some ⟨eb, 0, none⟩)))
    (hfa : w.frozen? ⟨D, a, none⟩ = false) (hfb : w.frozen? ⟨D, b, none⟩ = false)
    (hxa : w.cell? ⟨ea, 40, none⟩ = some (.int .i64 xa)) (hxb : w.cell? ⟨eb, 40, none⟩ = some (.int .i64 xb))
    (gfa : w.frozen? ⟨ea, 40, none⟩ = false) (gfb : w.frozen? ⟨eb, 40, none⟩ = false) (hDa : D ≠ ea) (hDb : D ≠ eb) (hne : ea ≠ eb) :
    Calls Yba.prog 10 #[.slice (some ⟨D, 0, none⟩) n n, .int .i64 a, .int .i64 b] w fun e w' => e = .returned (.tuple #[]) ∧
      w'.Alike ((((w.setCell ⟨D, a, none⟩ (.pointer (some ⟨eb, 0, none⟩))).setCell ⟨D, b, none⟩ (.pointer (some ⟨ea, 0, none⟩))).setCell ⟨eb, 40, none⟩ (.int .i64 a)).setCell ⟨ea, 40, none⟩ (.int .i64 b)) ∧ w'.tape = w.tape := by
  have hai : (a : Int) < n := by omega
  have hbi : (b : Int) < n := by omega
  go_enter Yba.func10, Yba.ntmps10
  go_wp2
  go_region
  all_goals
    go_wp2
    go_end0
    exact ⟨rfl, ⟨rfl, rfl, rfl⟩, rfl⟩

set_option maxHeartbeats 800000 in
theorem swap_same (D n a ea : Nat) (xa : Int) (w : World) (_hn : n ≤ 1024) (ha : a < n)
    (hca : w.cell? ⟨D, a, none⟩ = some (.pointer (some ⟨ea, 0, none⟩))) (hfa : w.frozen? ⟨D, a, none⟩ = false)
    (hxa : w.cell? ⟨ea, 40, none⟩ = some (.int .i64 xa)) (gfa : w.frozen? ⟨ea, 40, none⟩ = false) (hDa : D ≠ ea) :
    Calls Yba.prog 10 #[.slice (some ⟨D, 0, none⟩) n n, .int .i64 a, .int .i64 a] w fun e w' => e = .returned (.tuple #[]) ∧
      w'.Alike ((((w.setCell ⟨D, a, none⟩ (.pointer (some ⟨ea, 0, none⟩))).setCell ⟨D, a, none⟩ (.pointer (some ⟨ea, 0, none⟩))).setCell ⟨ea, 40, none⟩ (.int .i64 a)).setCell ⟨ea, 40, none⟩ (.int .i64 a)) ∧ w'.tape = w.tape := by
  have hai : (a : Int) < n := by omega
  go_enter Yba.func10, Yba.ntmps10
  go_wp2
  go_region
  all_goals
    go_wp2
    go_end0
    exact ⟨rfl, ⟨rfl, rfl, rfl⟩, rfl⟩

/-- The row of entries: place j holds a pointer to the entry e j, whose index is x j; all blocks apart; all of them from B on. -/
structure Laid (B : Nat) (w : World) (D n : Nat) (e : Nat → Nat) (x : Nat → Int) : Prop where
  row : w.rowIs D 32 n (fun j => ptr (e j))
  entry : ∀ j, j < n → EntryAt w (e j) (x j)
  apart : ∀ j, j < n → D ≠ e j
  inj : ∀ i j, i < n → j < n → e i = e j → i = j
  lowD : B ≤ D
  lowE : ∀ j, j < n → B ≤ e j

def sw (a b j : Nat) : Nat := if j = a then b else if j = b then a else j
def swx (a b : Nat) (x : Nat → Int) (j : Nat) : Int := if j = a then (a : Int) else if j = b then (b : Int) else x j

theorem sw_lt {a b j n : Nat} (ha : a < n) (hb : b < n) (hj : j < n) : sw a b j < n := by unfold sw; split; exact hb; split; exact ha; exact hj
theorem sw_inj {a b i j : Nat} (h : sw a b i = sw a b j) : i = j := by unfold sw at h; split at h <;> split at h <;> (try split at h) <;> (try split at h) <;> omega

theorem EntryAt.of_block {w w' : World} {b : Nat} {x : Int} (h : EntryAt w b x) (e : w'.heap[b]? = w.heap[b]?) : EntryAt w' b x := by
  obtain ⟨f, hf, hx⟩ := h
  exact ⟨f, hf.of_block e, hx⟩
theorem EntryAt.set {w : World} {b : Nat} {x : Int} (h : EntryAt w b x) (y : Int) : EntryAt (w.setCell ⟨b, 40, none⟩ (.int .i64 y)) b y := by
  obtain ⟨f, hf, hx⟩ := h
  exact ⟨_, hf.set 40 _, by simp⟩
theorem EntryAt.other {w : World} {b : Nat} {x : Int} (h : EntryAt w b x) {a : Addr} (ha : b ≠ a.block) (v : Value) : EntryAt (w.setCell a v) b x := by
  obtain ⟨f, hf, hx⟩ := h
  exact ⟨f, hf.setOther ha v, hx⟩
theorem EntryAt.cell {w : World} {b : Nat} {x : Int} (h : EntryAt w b x) : w.cell? ⟨b, 40, none⟩ = some (.int .i64 x) := by
  obtain ⟨f, hf, hx⟩ := h
  rw [hf.cell (by decide), hx]
theorem EntryAt.frozen {w : World} {b : Nat} {x : Int} (h : EntryAt w b x) : w.frozen? ⟨b, 40, none⟩ = false := by
  obtain ⟨f, hf, hx⟩ := h
  exact hf.frozen 40

theorem setCell_size (w : World) (a : Addr) (v : Value) : (w.setCell a v).heap.size = w.heap.size := by simp [World.setCell]

/-- SWAP: the two places change over, each moved entry's index is its new place; every other block is as it was. -/
theorem swap_any {B : Nat} {w : World} {D n : Nat} {e : Nat → Nat} {x : Nat → Int} (L : Laid B w D n e x) (a b : Nat) (hn : n ≤ 1024) (ha : a < n) (hb : b < n) :
    Calls Yba.prog 10 #[.slice (some ⟨D, 0, none⟩) n n, .int .i64 a, .int .i64 b] w fun r w' => r = .returned (.tuple #[]) ∧
      Laid B w' D n (fun j => e (sw a b j)) (swx a b x) ∧ w'.heap.size = w.heap.size ∧ (∀ k, k ≠ D → (∀ j, j < n → k ≠ e j) → w'.heap[k]? = w.heap[k]?) ∧ Below B w w' := by
  have ca := L.row.cell ha
  have cb := L.row.cell hb
  have Ea := L.entry a ha
  have Eb := L.entry b hb
  have hDa := L.apart a ha
  have hDb := L.apart b hb
  by_cases hab : a = b
  · subst hab
    refine (swap_same D n a (e a) (x a) w hn ha ca (L.row.frozen a) Ea.cell Ea.frozen hDa).mono ?_
    rintro r w' ⟨rfl, ⟨h1, h2, h3⟩, h4⟩
    refine ⟨rfl, ⟨?_, ?_, ?_, ?_, L.lowD, ?_⟩, ?_, ?_, ?_⟩
    · refine World.rowIs.congr (World.rowIs.of_block ((((L.row.set a (.pointer (some ⟨e a, 0, none⟩))).set a (.pointer (some ⟨e a, 0, none⟩))).setOther (a := ⟨e a, 40, none⟩) hDa (.int .i64 a)).setOther (a := ⟨e a, 40, none⟩) hDa (.int .i64 a)) (by rw [h1])) (fun i hi => ?_)
      by_cases hi' : i = a
      · subst hi'; simp [sw, ptr]
      · simp [sw, hi']
    · intro j hj
      refine EntryAt.of_block (w := ((((w.setCell ⟨D, a, none⟩ (.pointer (some ⟨e a, 0, none⟩))).setCell ⟨D, a, none⟩ (.pointer (some ⟨e a, 0, none⟩))).setCell ⟨e a, 40, none⟩ (.int .i64 a)).setCell ⟨e a, 40, none⟩ (.int .i64 a))) ?_ (by rw [h1])
      by_cases hja : j = a
      · subst hja
        have : sw j j j = j := by simp [sw]
        have h5 : swx j j x j = (j : Int) := by simp [swx]
        rw [this, h5]
        exact ((((L.entry j hj).other (by exact hDa.symm) _).other (by exact hDa.symm) _).set _).set _
      · have h5 : sw a a j = j := by simp [sw, hja]
        have h6 : swx a a x j = x j := by simp [swx, hja]
        rw [h5, h6]
        have hne : e j ≠ e a := fun h => hja (L.inj j a hj ha h)
        exact ((((L.entry j hj).other (by exact (L.apart j hj).symm) _).other (by exact (L.apart j hj).symm) _).other (by exact hne) _).other (by exact hne) _
    · intro j hj; exact L.apart _ (sw_lt ha ha hj)
    · intro i j hi hj h; exact sw_inj (L.inj _ _ (sw_lt ha ha hi) (sw_lt ha ha hj) h)
    · intro j hj; exact L.lowE _ (sw_lt ha ha hj)
    · rw [h1]; simp only [setCell_size]
    · intro k hk hke
      rw [h1]
      have := hke a ha
      rw [Below.heap_setCell _ _ _ _ (by exact this), Below.heap_setCell _ _ _ _ (by exact this), Below.heap_setCell _ _ _ _ (by exact hk), Below.heap_setCell _ _ _ _ (by exact hk)]
    · have bl : Below B w ((((w.setCell ⟨D, a, none⟩ (.pointer (some ⟨e a, 0, none⟩))).setCell ⟨D, a, none⟩ (.pointer (some ⟨e a, 0, none⟩))).setCell ⟨e a, 40, none⟩ (.int .i64 a)).setCell ⟨e a, 40, none⟩ (.int .i64 a)) :=
        ((((Below.refl _ _).setCell (by exact L.lowD) _).setCell (by exact L.lowD) _).setCell (by exact L.lowE a ha) _).setCell (by exact L.lowE a ha) _
      exact ⟨h2.trans bl.os, h4, h3.trans bl.output, by rw [h1]; exact bl.size, fun k hk => by rw [h1]; exact bl.block k hk⟩
  · have hne : e a ≠ e b := fun h => hab (L.inj a b ha hb h)
    refine (swap_other D n a b (e a) (e b) (x a) (x b) w hn ha hb hab ca cb (L.row.frozen a) (L.row.frozen b) Ea.cell Eb.cell Ea.frozen Eb.frozen hDa hDb hne).mono ?_
    rintro r w' ⟨rfl, ⟨h1, h2, h3⟩, h4⟩
    refine ⟨rfl, ⟨?_, ?_, ?_, ?_, L.lowD, ?_⟩, ?_, ?_, ?_⟩
    · refine World.rowIs.congr (World.rowIs.of_block ((((L.row.set a (.pointer (some ⟨e b, 0, none⟩))).set b (.pointer (some ⟨e a, 0, none⟩))).setOther (a := ⟨e b, 40, none⟩) hDb (.int .i64 a)).setOther (a := ⟨e a, 40, none⟩) hDa (.int .i64 b)) (by rw [h1])) (fun i hi => ?_)
      by_cases hi' : i = a
      · subst hi'; simp [sw, ptr, hab]
      · by_cases hi2 : i = b
        · subst hi2; simp [sw, ptr, hi']
        · simp [sw, hi', hi2]
    · intro j hj
      refine EntryAt.of_block (w := ((((w.setCell ⟨D, a, none⟩ (.pointer (some ⟨e b, 0, none⟩))).setCell ⟨D, b, none⟩ (.pointer (some ⟨e a, 0, none⟩))).setCell ⟨e b, 40, none⟩ (.int .i64 a)).setCell ⟨e a, 40, none⟩ (.int .i64 b))) ?_ (by rw [h1])
      by_cases hja : j = a
      · subst hja
        have h5 : sw j b j = b := by simp [sw]
        have h6 : swx j b x j = (j : Int) := by simp [swx]
        rw [h5, h6]
        exact ((((L.entry b hb).other (by exact hDb.symm) _).other (by exact hDb.symm) _).set _).other (by exact hne.symm) _
      · by_cases hjb : j = b
        · subst hjb
          have h5 : sw a j j = a := by simp [sw, hja]
          have h6 : swx a j x j = (j : Int) := by simp [swx, hja]
          rw [h5, h6]
          exact ((((L.entry a ha).other (by exact hDa.symm) _).other (by exact hDa.symm) _).other (by exact hne) _).set _
        · have h5 : sw a b j = j := by simp [sw, hja, hjb]
          have h6 : swx a b x j = x j := by simp [swx, hja, hjb]
          rw [h5, h6]
          have n1 : e j ≠ e a := fun h => hja (L.inj j a hj ha h)
          have n2 : e j ≠ e b := fun h => hjb (L.inj j b hj hb h)
          exact ((((L.entry j hj).other (by exact (L.apart j hj).symm) _).other (by exact (L.apart j hj).symm) _).other (by exact n2) _).other (by exact n1) _
    · intro j hj; exact L.apart _ (sw_lt ha hb hj)
    · intro i j hi hj h; exact sw_inj (L.inj _ _ (sw_lt ha hb hi) (sw_lt ha hb hj) h)
    · intro j hj; exact L.lowE _ (sw_lt ha hb hj)
    · rw [h1]; simp only [setCell_size]
    · intro k hk hke
      rw [h1]
      have ka := hke a ha
      have kb := hke b hb
      rw [Below.heap_setCell _ _ _ _ (by exact ka), Below.heap_setCell _ _ _ _ (by exact kb), Below.heap_setCell _ _ _ _ (by exact hk), Below.heap_setCell _ _ _ _ (by exact hk)]
    · have bl : Below B w ((((w.setCell ⟨D, a, none⟩ (.pointer (some ⟨e b, 0, none⟩))).setCell ⟨D, b, none⟩ (.pointer (some ⟨e a, 0, none⟩))).setCell ⟨e b, 40, none⟩ (.int .i64 a)).setCell ⟨e a, 40, none⟩ (.int .i64 b)) :=
        ((((Below.refl _ _).setCell (by exact L.lowD) _).setCell (by exact L.lowD) _).setCell (by exact L.lowE b hb) _).setCell (by exact L.lowE a ha) _
      exact ⟨h2.trans bl.os, h4, h3.trans bl.output, by rw [h1]; exact bl.size, fun k hk => by rw [h1]; exact bl.block k hk⟩

end Go.Proofs.Ybulkga
