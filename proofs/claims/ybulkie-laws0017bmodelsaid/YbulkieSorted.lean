/-
  slices.Sort AND slices.Compact ON A ROW OF THE CALL's OWN, in the words of the roles; and what the two make of a list of states.
-/
import Derived.Test.YbulkieKey
import Derived.Test.YbulkieShelf
import Derived.Sort.OwnSortedInts
import Derived.Lib.RowBridge
namespace Go.Proofs.Ybulkie
open Go.RowKit Go.Sort Go.Lib

theorem sorted_extI : ∀ (a b : List Int), a.Pairwise (· < ·) → b.Pairwise (· < ·) → (∀ x, x ∈ a ↔ x ∈ b) → a = b
  | [], [], _, _, _ => rfl
  | [], y :: b, _, _, h => absurd ((h y).2 (List.mem_cons_self ..)) (by simp)
  | x :: a, [], _, _, h => absurd ((h x).1 (List.mem_cons_self ..)) (by simp)
  | x :: a, y :: b, ha, hb, h => by
    rw [List.pairwise_cons] at ha hb
    have hxy : x = y := by
      rcases List.mem_cons.1 ((h x).1 (List.mem_cons_self ..)) with e | hx
      · exact e
      · rcases List.mem_cons.1 ((h y).2 (List.mem_cons_self ..)) with e | hy
        · exact e.symm
        · have := hb.1 x hx; have := ha.1 y hy; omega
    subst hxy
    have : a = b := sorted_extI a b ha.2 hb.2 (fun z => by
      constructor
      · intro hz
        rcases List.mem_cons.1 ((h z).1 (List.mem_cons_of_mem _ hz)) with e | hz'
        · have := ha.1 z hz; omega
        · exact hz'
      · intro hz
        rcases List.mem_cons.1 ((h z).2 (List.mem_cons_of_mem _ hz)) with e | hz'
        · have := hb.1 z hz; omega
        · exact hz')
    rw [this]

theorem compactUpTo_spec (d : Array Int) (hs : ∀ i j, i < j → j < d.size → d[i]! ≤ d[j]!) : ∀ m, m ≤ d.size → (compactUpTo d m).Pairwise (· < ·) ∧ ∀ x, x ∈ compactUpTo d m ↔ ∃ j, j < m ∧ d[j]! = x
  | 0, _ => ⟨by simp [compactUpTo], fun x => by simp [compactUpTo]⟩
  | m + 1, hm => by
    obtain ⟨h1, h2⟩ := compactUpTo_spec d hs m (by omega)
    rw [compactUpTo_succ]
    by_cases hk : m = 0 ∨ d[m]! ≠ d[m - 1]!
    · have hkt : keeps d m = true := by simp [keeps, hk]
      rw [hkt]
      simp only [if_true]
      constructor
      · rw [List.pairwise_append]
        refine ⟨h1, by simp, ?_⟩
        intro a ha b hb
        simp at hb
        subst hb
        obtain ⟨j, hj, rfl⟩ := (h2 a).1 ha
        have hm0 : m ≠ 0 := by omega
        have hne : d[m]! ≠ d[m - 1]! := by rcases hk with hk | hk; exact absurd hk hm0; exact hk
        have h3 := hs (m - 1) m (by omega) (by omega)
        by_cases hj1 : j = m - 1
        · rw [hj1]; omega
        · have h4 := hs j (m - 1) (by omega) (by omega)
          omega
      · intro x
        rw [List.mem_append, h2]
        simp only [List.mem_cons, List.not_mem_nil, or_false]
        constructor
        · rintro (⟨j, hj, rfl⟩ | rfl)
          · exact ⟨j, by omega, rfl⟩
          · exact ⟨m, by omega, rfl⟩
        · rintro ⟨j, hj, rfl⟩
          by_cases hjm : j = m
          · subst hjm; exact Or.inr rfl
          · exact Or.inl ⟨j, by omega, rfl⟩
    · have hkf : keeps d m = false := by
        unfold keeps
        exact decide_eq_false hk
      rw [hkf]
      simp only [Bool.false_eq_true, if_false, List.append_nil]
      refine ⟨h1, fun x => ?_⟩
      rw [h2]
      constructor
      · rintro ⟨j, hj, rfl⟩; exact ⟨j, by omega, rfl⟩
      · rintro ⟨j, hj, rfl⟩
        by_cases hjm : j = m
        · subst hjm
          have hj0 : j ≠ 0 := fun e => hk (Or.inl e)
          have he : d[j]! = d[j - 1]! := Classical.byContradiction (fun e => hk (Or.inr e))
          exact ⟨j - 1, by omega, he.symm⟩
        · exact ⟨j, by omega, rfl⟩

theorem compact_sorted (zs : List Int) (hs : zs.Pairwise (· ≤ ·)) : (compact zs).Pairwise (· < ·) ∧ ∀ x, x ∈ compact zs ↔ x ∈ zs := by
  have hget : ∀ i, i < zs.length → zs.toArray[i]! = zs[i]?.getD 0 := by
    intro i hi
    simp [hi]
  have h := compactUpTo_spec zs.toArray (fun i j hij hj => by
    have hj' : j < zs.length := by simpa using hj
    have hi' : i < zs.length := by omega
    rw [hget i hi', hget j hj', List.getElem?_eq_getElem hi', List.getElem?_eq_getElem hj']
    exact List.pairwise_iff_getElem.1 hs i j hi' hj' hij) zs.length (by simp)
  refine ⟨h.1, fun x => ?_⟩
  show x ∈ compactUpTo zs.toArray zs.length ↔ _
  rw [h.2, List.mem_iff_getElem]
  constructor
  · rintro ⟨j, hj, rfl⟩
    exact ⟨j, hj, by rw [hget j hj, List.getElem?_eq_getElem hj]; rfl⟩
  · rintro ⟨j, hj, rfl⟩
    exact ⟨j, hj, by rw [hget j hj, List.getElem?_eq_getElem hj]; rfl⟩

def castI (l : List Nat) : List Int := l.map (fun q : Nat => (q : Int))

theorem ints_cast (l : List Nat) : ints l = (castI l).map (Value.int .i64) := by simp [ints, castI]

/-- Sorted, and each state once: the set's states in order. -/
theorem sort_compact {N : Nat} (l : List Nat) (hl : ∀ q ∈ l, q < N) : compact ((castI l).mergeSort fun x y => decide (x ≤ y)) = castI (Plain.elems N (Plain.maskOf l)) := by
  have hs : ((castI l).mergeSort fun x y => decide (x ≤ y)).Pairwise (· ≤ ·) := by
    have := List.pairwise_mergeSort (le := fun x y : Int => decide (x ≤ y)) (by intro a b c h1 h2; simp at h1 h2 ⊢; omega) (by intro a b; simp; omega) (castI l)
    exact Plain.pw_mono (by intro a b h; simpa using h) this
  obtain ⟨h1, h2⟩ := compact_sorted _ hs
  refine sorted_extI _ _ h1 ?_ ?_
  · exact List.pairwise_map.2 (Plain.pw_mono (by intro a b h; omega) (Plain.elems_sorted N (Plain.maskOf l)))
  · intro x
    rw [h2, List.mem_mergeSort]
    simp only [castI, List.mem_map]
    constructor
    · rintro ⟨q, hq, rfl⟩
      exact ⟨q, Plain.mem_elems.2 ⟨hl q hq, Plain.mem_maskOf.2 hq⟩, rfl⟩
    · rintro ⟨q, hq, rfl⟩
      exact ⟨q, Plain.mem_maskOf.1 (Plain.mem_elems.1 hq).2, rfl⟩

/-- Sorted alone, no state twice: the set's states in order. -/
theorem sort_nodup {N : Nat} (l : List Nat) (hl : ∀ q ∈ l, q < N) (hd : l.Nodup) : ((castI l).mergeSort fun x y => decide (x ≤ y)) = castI (Plain.elems N (Plain.maskOf l)) := by
  have hp := List.mergeSort_perm (castI l) (fun x y => decide (x ≤ y))
  have hs : ((castI l).mergeSort fun x y => decide (x ≤ y)).Pairwise (· ≤ ·) := by
    have := List.pairwise_mergeSort (le := fun x y : Int => decide (x ≤ y)) (by intro a b c h1 h2; simp at h1 h2 ⊢; omega) (by intro a b; simp; omega) (castI l)
    exact Plain.pw_mono (by intro a b h; simpa using h) this
  have hd' : ((castI l).mergeSort fun x y => decide (x ≤ y)).Nodup := hp.nodup_iff.2 (by
    unfold castI
    exact List.pairwise_map.2 (Plain.pw_mono (by intro a b h; omega) hd))
  refine sorted_extI _ _ ?_ ?_ ?_
  · exact Plain.pw_mono (by rintro a b ⟨h1, h2⟩; omega) (hs.and hd')
  · exact List.pairwise_map.2 (Plain.pw_mono (by intro a b h; omega) (Plain.elems_sorted N (Plain.maskOf l)))
  · intro x
    rw [List.mem_mergeSort]
    simp only [castI, List.mem_map]
    constructor
    · rintro ⟨q, hq, rfl⟩
      exact ⟨q, Plain.mem_elems.2 ⟨hl q hq, Plain.mem_maskOf.2 hq⟩, rfl⟩
    · rintro ⟨q, hq, rfl⟩
      exact ⟨q, Plain.mem_maskOf.1 (Plain.mem_elems.1 hq).2, rfl⟩

theorem sort_st {w0 w : World} {H : Nat → Option (Nat × Obj)} {F : Nat → Option (Array Value × TypeId)} (hst : St w0 w H F) (r : Nat) (hr0 : 0 < r) (sv : Value) (l : List Int) (hn : l.length ≤ 1000) (hrow : RowV (H r) 3 1 sv l.length (l.map (Value.int .i64))) :
    Calls Yba.prog 43 #[sv] w fun e w' => e = .returned (.tuple #[]) ∧ ∃ h', St w0 w' (upd H r h') F ∧ RowV h' 3 1 sv l.length ((l.mergeSort fun x y => decide (x ≤ y)).map (Value.int .i64)) := by
  rcases hrow.2 with ⟨rfl, h0, hh⟩ | ⟨b, cap, cur, h1, rfl, h3, h4, h5, h6⟩
  · have hl : l = [] := List.length_eq_zero_iff.1 h0
    subst hl
    refine (Yba.slices_Sort_int_none none 0 w).mono ?_
    rintro e w' ⟨rfl, rfl⟩
    refine ⟨rfl, H r, ?_, ?_⟩
    · have : upd H r (H r) = H := by funext j; unfold upd; split <;> simp_all
      rw [this]; exact hst
    · simpa using hrow
  · have hb := hst.block h1
    have hlt := hst.lt h1
    have hH : Holds (Value.int .i64) w b 0 l.toArray := holds_of_blockI hb (by rw [Nat.mul_one] at h6; exact h6)
    refine (Yba.slices_Sort_int b 0 cap l w hH hlt (by omega)).mono ?_
    rintro e w' ⟨rfl, n, os, rfl⟩
    refine ⟨rfl, ?_⟩
    have hlen : (l.mergeSort fun x y => decide (x ≤ y)).length = l.length := List.length_mergeSort _
    exact hrow.back hr0 hst (ownsRow_sortedI hlen (hst.low h1) hb h3 h4 h5) (grownBy_sortedI _) (Or.inl rfl)

theorem compact_st {w0 w : World} {H : Nat → Option (Nat × Obj)} {F : Nat → Option (Array Value × TypeId)} (hst : St w0 w H F) (r : Nat) (hr0 : 0 < r) (sv : Value) (l : List Int) (hn : l.length ≤ 1000) (hrow : RowV (H r) 3 1 sv l.length (l.map (Value.int .i64))) :
    Calls Yba.prog 44 #[sv] w fun e w' => ∃ sv' h', e = .returned sv' ∧ St w0 w' (upd H r h') F ∧ RowV h' 3 1 sv' (compact l).length ((compact l).map (Value.int .i64)) := by
  rcases hrow.2 with ⟨rfl, h0, hh⟩ | ⟨b, cap, cur, h1, rfl, h3, h4, h5, h6⟩
  · have hl : l = [] := List.length_eq_zero_iff.1 h0
    subst hl
    refine (Yba.slices_Compact_int_empty none 0 w).mono ?_
    rintro e w' ⟨rfl, rfl⟩
    refine ⟨_, H r, rfl, ?_, ?_⟩
    · have : upd H r (H r) = H := by funext j; unfold upd; split <;> simp_all
      rw [this]; exact hst
    · have : compact ([] : List Int) = [] := rfl
      rw [this]
      exact hrow
  · have hb := hst.block h1
    have hH : Holds (Value.int .i64) w b 0 l.toArray := holds_of_blockI hb (by rw [Nat.mul_one] at h6; exact h6)
    have hcl := compact_length_le l
    refine (Yba.slices_Compact_int b 0 cap l w hH (by omega) (by simpa using h3)).mono ?_
    rintro e w' ⟨rfl, q, rfl⟩
    have hg : w.grownBy (putRow (Value.int .i64) (Sort.ahead w q) b 0 (compact l ++ List.replicate (l.length - (compact l).length) 0).toArray) (some b) := by
      have := grownBy_sortedI (w := w) (g := b) (n := q) (os := #[]) (compact l ++ List.replicate (l.length - (compact l).length) 0).toArray
      rw [grow_empty] at this
      exact this
    have hh : (putRow (Value.int .i64) (Sort.ahead w q) b 0 (compact l ++ List.replicate (l.length - (compact l).length) 0).toArray).heap[b]? = some (.cells (putCells (Value.int .i64) 0 (compact l ++ List.replicate (l.length - (compact l).length) 0).toArray cur) 3 (0, 0)) := by
      have := heap_sortedI (w := w) (g := b) (n := q) (os := #[]) (compact l ++ List.replicate (l.length - (compact l).length) 0).toArray hb
      rw [grow_empty] at this
      exact this
    obtain ⟨h', hst', hrow'⟩ := hrow.back (v' := .slice (some ⟨b, 0, none⟩) (compact l).length cap) (n' := (compact l).length) (xs' := (compact l).map (Value.int .i64)) hr0 hst (w' := _) ⟨by simp, Or.inr ⟨b, cap, _, rfl, hst.low h1, hh, by omega, h4, by simp [putCells, h5], by
      rw [Nat.mul_one]
      have ht := take_putCellsI cur (compact l ++ List.replicate (l.length - (compact l).length) 0) (by simp; omega)
      have h7 : ((putCells (Value.int .i64) 0 (compact l ++ List.replicate (l.length - (compact l).length) 0).toArray cur).toList.take (compact l ++ List.replicate (l.length - (compact l).length) 0).length).take (compact l).length = ((compact l ++ List.replicate (l.length - (compact l).length) 0).map (Value.int .i64)).take (compact l).length := by rw [ht]
      rw [List.take_take] at h7
      have h8 : min (compact l).length (compact l ++ List.replicate (l.length - (compact l).length) (0 : Int)).length = (compact l).length := by simp
      rw [h8, List.map_append] at h7
      rw [h7]
      simp⟩⟩ hg (Or.inl rfl)
    exact ⟨_, h', rfl, hst', hrow'⟩

end Go.Proofs.Ybulkie
