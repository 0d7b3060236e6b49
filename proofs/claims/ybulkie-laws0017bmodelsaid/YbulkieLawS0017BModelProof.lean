/-
  A proof of 'Rows.LawS0017BModelSaid'. The frame follows the one that the kit's skeleton tool wrote for another law of this place; the opening of the slice of structs is by hand.
-/
import Derived.Test.YbulkieRows
import Derived.Test.YbulkieLaw
import Derived.WalkKit
import Derived.ProofKit
import Derived.OpenShut
import Derived.ChangeOld
import Derived.Below
import Derived.Deep.Slices
namespace Go.Proofs.Ybulkie.lawS0017BModel
open Go.ChangeShapes Go.WideShapes Go.ChangeAt Go.RowKit

theorem own : ownKnob Yba.prog.godebug = none := by kernel_rfl
theorem laidOut : laidOutB Yba.prog = true := by kernel_rfl
theorem cells5 : Yba.prog.cellsOf 5 = 1 := by kernel_rfl
theorem cells77 : Yba.prog.cellsOf 77 = 3 := by kernel_rfl

theorem list_of {α : Type} {p : Nat → α → Prop} : ∀ n, (∀ i, i < n → ∃ e, p i e) → ∃ es : List α, es.length = n ∧ ∀ i, i < n → ∃ e, es[i]? = some e ∧ p i e
  | 0, _ => ⟨[], rfl, fun i hi => absurd hi (by omega)⟩
  | n + 1, h => by
    obtain ⟨es, h1, h2⟩ := list_of n (fun i hi => h i (by omega))
    obtain ⟨e, he⟩ := h n (by omega)
    refine ⟨es ++ [e], by simp [h1], fun i hi => ?_⟩
    by_cases hl : i < n
    · obtain ⟨x, h3, h4⟩ := h2 i hl
      exact ⟨x, by rw [List.getElem?_append_left (by omega)]; exact h3, h4⟩
    · have : i = n := by omega
      subst this
      exact ⟨e, by rw [← h1]; simp, he⟩

/-- One byte. -/
theorem byte_of {n : Int} (h : (Lit.int .u8 n).wf = true) : ∃ q : Nat, n = (q : Int) ∧ q < 256 := by
  obtain ⟨h1, h2⟩ := bounds_u8 h
  exact ⟨n.toNat, by omega, by omega⟩

section
variable {H : Type} {enc : TypeId × Value → H} {W : World} {base : Nat} {spare : Nat → Bool} {held : Bool}

set_option maxRecDepth 100000 in
/-- THE EDGES, OPENED. -/
theorem edges_open {fuel : Nat} {a : Option Addr} {len cap : Nat} {x : DataW H × List MemPlace} (h : DataW.trod enc Yba.prog W base spare held fuel 74 [.slice a len cap] = some x) :
    ∃ b off es, (0 < len → a = some ⟨b, off, none⟩) ∧ (0 < len → b < W.heap.size) ∧ EdgesAt W b off len es := by
  by_cases h0 : len = 0
  · subst h0
    exact ⟨0, 0, [], fun h => absurd h (by omega), fun h => absurd h (by omega), rfl, fun j hj => absurd hj (by omega)⟩
  rcases Go.Deep.open_slice Yba.underlying74 h with ⟨hcs, _⟩ | ⟨ad, len', cap', m, n, D, Pl, hcs, hb, hl, hm, hmm, hx, hall⟩
  · simp only [List.cons.injEq, Value.slice.injEq, and_true] at hcs
    exact absurd hcs.2.1 h0
  · simp only [List.cons.injEq, Value.slice.injEq, and_true] at hcs
    obtain ⟨rfl, rfl, rfl⟩ := hcs
    have hlm : len ≤ m := by rw [hmm]; split <;> omega
    rw [cells77] at hall
    have each : ∀ i, i < len → ∃ e : Nat × Nat × Nat, W.cell? (ad.add (i * 3)) = some (.int .u8 (e.1 : Int)) ∧ W.cell? (ad.add (i * 3 + 1)) = some (.int .u8 (e.2.1 : Int)) ∧ W.cell? (ad.add (i * 3 + 2)) = some (.int .u8 (e.2.2 : Int)) ∧ e.1 < 256 ∧ e.2.1 < 256 ∧ e.2.2 < 256 := by
      intro i hi
      obtain ⟨cs, h1, h2⟩ := hall i (by omega)
      obtain ⟨_, hlen, hcell⟩ := World.cells?_some h1
      obtain ⟨xs, k, _, _, _, hxl, hf⟩ := DataW.trod_struct Yba.underlying77 h2
      match xs, hxl, cs, hlen with
      | [y0, y1, y2], _, [v0, v1, v2], _ =>
        have g0 : DataW.trod enc Yba.prog W base spare held k 5 (([v0, v1, v2].drop 0).take (Yba.prog.cellsOf 5)) = some y0 := hf 0 _ rfl
        have g1 : DataW.trod enc Yba.prog W base spare held k 5 (([v0, v1, v2].drop 1).take (Yba.prog.cellsOf 5)) = some y1 := hf 1 _ rfl
        have g2 : DataW.trod enc Yba.prog W base spare held k 5 (([v0, v1, v2].drop 2).take (Yba.prog.cellsOf 5)) = some y2 := hf 2 _ rfl
        rw [cells5] at g0 g1 g2
        obtain ⟨n0, e0, _, w0⟩ := DataW.trod_int Yba.underlying5 g0
        obtain ⟨n1, e1, _, w1⟩ := DataW.trod_int Yba.underlying5 g1
        obtain ⟨n2, e2, _, w2⟩ := DataW.trod_int Yba.underlying5 g2
        have e0' : v0 = .int .u8 n0 := by simpa using e0
        have e1' : v1 = .int .u8 n1 := by simpa using e1
        have e2' : v2 = .int .u8 n2 := by simpa using e2
        subst e0' e1' e2'
        obtain ⟨q0, rfl, l0⟩ := byte_of w0
        obtain ⟨q1, rfl, l1⟩ := byte_of w1
        obtain ⟨q2, rfl, l2⟩ := byte_of w2
        have c0 := hcell 0 (by omega)
        have c1 := hcell 1 (by omega)
        have c2 := hcell 2 (by omega)
        rw [Go.Deep.add_add] at c0 c1 c2
        exact ⟨(q0, q1, q2), c0, c1, c2, l0, l1, l2⟩
    obtain ⟨es, hes, hev⟩ := list_of len each
    obtain ⟨b, off, spot⟩ := ad
    have hspot : spot = none := by
      obtain ⟨e, _, hc, _⟩ := hev 0 (by omega)
      simpa [Addr.add] using World.cell?_spot hc
    subst hspot
    refine ⟨b, off, es, fun _ => rfl, fun _ => ?_, hes, fun j hj => ?_⟩
    · obtain ⟨e, _, hc, _⟩ := hev 0 (by omega)
      rw [add_plain] at hc
      exact World.block_lt_of_cell? _ _ hc
    · obtain ⟨e, h1, h2, h3, h4, h5⟩ := hev j hj
      rw [add_plain] at h2 h3 h4
      exact ⟨e, h1, h2, h3, h4, h5⟩

/-- THE START, OPENED. -/
theorem start_open {fuel : Nat} {a : Option Addr} {len cap : Nat} {x : DataW H × List MemPlace} (h : DataW.trod enc Yba.prog W base spare held fuel 22 [.slice a len cap] = some x) :
    ∃ (b off : Nat) (ss : List Nat), (0 < len → a = some ⟨b, off, none⟩) ∧ (0 < len → b < W.heap.size) ∧ (ss.length = len ∧ ∀ j, j < len → ∃ q, ss[j]? = some q ∧ q < 256 ∧ W.cell? ⟨b, off + j, none⟩ = some (.int .u8 ((q : Nat) : Int))) := by
  by_cases h0 : len = 0
  · subst h0
    exact ⟨0, 0, [], fun h => absurd h (by omega), fun h => absurd h (by omega), rfl, fun j hj => absurd hj (by omega)⟩
  rcases open_ints Yba.underlying22 Yba.underlying5 cells5 h with ⟨hcs, _⟩ | ⟨ad, len', cap', zs, hcs, _, hl, hm, hz, _, hcell, hwz⟩
  · simp only [List.cons.injEq, Value.slice.injEq, and_true] at hcs
    exact absurd hcs.2.1 h0
  · simp only [List.cons.injEq, Value.slice.injEq, and_true] at hcs
    obtain ⟨rfl, rfl, rfl⟩ := hcs
    have hlz : len ≤ zs.length := by rw [hz]; split <;> omega
    obtain ⟨b, off, rfl, hc⟩ := ints_at hcell (by omega)
    have each : ∀ i, i < len → ∃ q : Nat, q < 256 ∧ W.cell? ⟨b, off + i, none⟩ = some (.int .u8 (q : Int)) := by
      intro i hi
      have hiz : i < zs.length := by omega
      have hw : (Lit.int .u8 (zs.getD i 0)).wf = true := by
        have : zs.getD i 0 = zs[i] := by simp [List.getD, hiz]
        rw [this]
        exact hwz _ (List.getElem_mem hiz)
      obtain ⟨q, hq, hl⟩ := byte_of hw
      exact ⟨q, hl, by rw [hc i hiz, hq]⟩
    obtain ⟨ss, hss, hev⟩ := list_of len each
    exact ⟨b, off, ss, fun _ => rfl, fun _ => World.block_lt_of_cell? _ _ (hc 0 (by omega)), hss, hev⟩
end

/-! ### THE WALK -/
set_option maxRecDepth 100000 in
theorem walk (n k nd li : Nat) (a2 a3 : Option Addr) (ne ce b2 o2 ns cs b3 o3 : Nat) (es : List (Nat × Nat × Nat)) (ss : List Nat) (w : World) (hn : n < 256) (hk : k < 256) (hnd : nd < 256) (hli : li < 256)
    (ha2 : 0 < ne → a2 = some ⟨b2, o2, none⟩) (hb2 : 0 < ne → b2 < w.heap.size) (he : EdgesAt w b2 o2 ne es)
    (ha3 : 0 < ns → a3 = some ⟨b3, o3, none⟩) (hb3 : 0 < ns → b3 < w.heap.size) (hs : ss.length = ns ∧ ∀ j, j < ns → ∃ q, ss[j]? = some q ∧ q < 256 ∧ w.cell? ⟨b3, o3 + j, none⟩ = some (.int .u8 (q : Int))) :
    Calls Yba.prog 4 #[.int .u8 n, .int .u8 k, .slice a2 ne ce, .slice a3 ns cs, .int .u8 nd, .int .u8 li] w fun e w' => e = .returned (.bool true) ∧ Below w.heap.size w w' := by
  by_cases h1 : 256 < ne
  · have h1' : 256 < (ne : Int) := by omega
    clear hb2 he hs ha2 ha3 hb3
    go_enter Yba.func4, Yba.ntmps4
    go_wp2
    go_ret
    exact ⟨rfl, Below.refl _ _⟩
  by_cases h2 : 256 < ns
  · have h1' : ¬ 256 < (ne : Int) := by omega
    have h2' : 256 < (ns : Int) := by omega
    clear hb2 he hs ha2 ha3 hb3
    go_enter Yba.func4, Yba.ntmps4
    go_wp2
    go_ret
    exact ⟨rfl, Below.refl _ _⟩
  exact law_some n k nd li a2 a3 ne ce b2 o2 ns cs b3 o3 es ss w hn hk hnd hli (by omega) (by omega) (hide ha2) (hide hb2) (hide he) (hide ha3) (hide hb3) (hide hs)

/-! ### THE ROW's STEP -/
set_option maxRecDepth 100000 in
theorem lifted (os : Os) (started : os.Started) (H : Type) (enc : TypeId × Value → H) :
    ReturnsInHanded {} Yba.checked os 4 .any (Rows.lawS0017BModelSpec.pre6 enc Yba.prog Yba.f4 Rows.lawS0017BModelRow.domain false) (Rows.lawS0017BModelSpec.post enc Yba.prog Yba.f4 false true false false) := by
  refine returnsInHanded_of_change (C := Yba.checked) own started (by kernel_rfl) Yba.func4
    (ChangeSpec.witness6 (enc := enc) (C := Yba.checked) false ⟨#[], #[.int .u8 0, .int .u8 0, .slice none 0 0, .slice none 0 0, .int .u8 0, .int .u8 0], []⟩ 8 (by kernel_rfl) (by kernel_rfl) (by kernel_rfl) (by kernel_rfl)) ?_
  intro W base args ds gs before hval0 hW hcnd _
  have hval : ∀ (j : Nat) t v, Yba.f4.params[j]? = some t → args[j]? = some v → Value.okWide Yba.prog W .any base t v := hval0
  have hW' := hW
  obtain ⟨p, q, hA0, hV, rfl, hfz, hnd⟩ := hW
  have hA : DataW.TrodAll enc Yba.prog W 0 (fun _ => true) true Yba.f4.params.toList args.toList ds p := hA0
  rw [Yba.params4] at hA hval
  obtain ⟨v0, vs0, d0, ds0, p0, q0, hargs, rfl, rfl, h0, r0⟩ := trodAll_cons hA
  obtain ⟨v1, vs1, d1, ds1, p1, q1, rfl, rfl, rfl, h1, r1⟩ := trodAll_cons r0
  obtain ⟨v2, vs2, d2, ds2, p2, q2, rfl, rfl, rfl, h2, r2⟩ := trodAll_cons r1
  obtain ⟨v3, vs3, d3, ds3, p3, q3, rfl, rfl, rfl, h3, r3⟩ := trodAll_cons r2
  obtain ⟨v4, vs4, d4, ds4, p4, q4, rfl, rfl, rfl, h4, r4⟩ := trodAll_cons r3
  obtain ⟨v5, vs5, d5, ds5, p5, q5, rfl, rfl, rfl, h5, r5⟩ := trodAll_cons r4
  obtain ⟨rfl, rfl, rfl⟩ := trodAll_nil r5
  obtain rfl : args = #[v0, v1, v2, v3, v4, v5] := by cases args; simp_all
  obtain ⟨rfl, rfl⟩ := trodVars_none hV
  obtain ⟨a2, len2, cap2, rfl⟩ := okWide_slice Yba.underlying74 (hval 2 74 v2 rfl rfl)
  obtain ⟨a3, len3, cap3, rfl⟩ := okWide_slice Yba.underlying22 (hval 3 22 v3 rfl rfl)
  have k2 := h2
  have k3 := h3
  have lt2 : ∀ x ∈ p2, x.block < W.heap.size := by obtain ⟨m, hm⟩ := k2; exact DataW.trod_lt m _ _ _ hm
  have lt3 : ∀ x ∈ p3, x.block < W.heap.size := by obtain ⟨m, hm⟩ := k3; exact DataW.trod_lt m _ _ _ hm
  obtain ⟨b2, o2, es, ha2, hb2, he⟩ : ∃ b off es, (0 < len2 → a2 = some ⟨b, off, none⟩) ∧ (0 < len2 → b < W.heap.size) ∧ EdgesAt W b off len2 es := by
    obtain ⟨fuel, hf⟩ := h2
    exact edges_open hf
  obtain ⟨b3, o3, ss, ha3, hb3, hs⟩ : ∃ (b off : Nat) (ss : List Nat), (0 < len3 → a3 = some ⟨b, off, none⟩) ∧ (0 < len3 → b < W.heap.size) ∧ (ss.length = len3 ∧ ∀ j, j < len3 → ∃ q, ss[j]? = some q ∧ q < 256 ∧ W.cell? ⟨b, off + j, none⟩ = some (.int .u8 ((q : Nat) : Int))) := by
    obtain ⟨fuel, hf⟩ := h3
    exact start_open hf
  obtain ⟨a0, rfl, rfl, rfl, w0⟩ := open_int Yba.underlying5 (hval 0 5 v0 rfl rfl) h0
  obtain ⟨a1, rfl, rfl, rfl, w1⟩ := open_int Yba.underlying5 (hval 1 5 v1 rfl rfl) h1
  obtain ⟨a4, rfl, rfl, rfl, w4⟩ := open_int Yba.underlying5 (hval 4 5 v4 rfl rfl) h4
  obtain ⟨a5, rfl, rfl, rfl, w5⟩ := open_int Yba.underlying5 (hval 5 5 v5 rfl rfl) h5
  obtain ⟨n0, rfl, l0⟩ := byte_of w0
  obtain ⟨n1, rfl, l1⟩ := byte_of w1
  obtain ⟨n4, rfl, l4⟩ := byte_of w4
  obtain ⟨n5, rfl, l5⟩ := byte_of w5
  clear hA0 hval0
  refine (walk n0 n1 n4 n5 a2 a3 len2 cap2 b2 o2 len3 cap3 b3 o3 es ss W l0 l1 l4 l5 ha2 hb2 he ha3 hb3 hs).mono fun e W' ⟨he', bel⟩ => ?_
  subst he'
  exact ⟨_, rfl, _, _, _, [], _, [], hW', trodAll_mk1 (shut_bool Yba.underlying4 _), (trodAll_cons_mk (shut_int Yba.underlying5 w0) (trodAll_cons_mk (shut_int Yba.underlying5 w1) (trodAll_cons_mk (Below.trod laidOut (by kernel_rfl) (of_decide_eq_true (by kernel_rfl)) k2 bel lt2) (trodAll_cons_mk (Below.trod laidOut (by kernel_rfl) (of_decide_eq_true (by kernel_rfl)) k3 bel lt3) (trodAll_cons_mk (shut_int Yba.underlying5 w4) (trodAll_cons_mk (shut_int Yba.underlying5 w5) trodAll_mk0)))))), rfl, bel.frame _, fun h => by cases h⟩

theorem over : Rows.lawS0017BModelRow.holds Yba.pinned (OpenSpec.ofChange Rows.lawS0017BModelSpec) :=
  OpenClaim.holds_of_wide 4 Yba.f4 rfl rfl rfl rfl rfl rfl rfl ⟨rfl, rfl, rfl, rfl, rfl⟩ rfl rfl rfl rfl rfl (by kernel_rfl) Yba.func4 (by kernel_rfl)
    (of_decide_eq_true (by kernel_rfl)) (by unfold Func.isWrapper; first | (rw [if_pos (by decide +kernel)]; kernel_rfl) | (rw [if_neg (by decide +kernel)]; exact ⟨rfl, rfl⟩))
    (fun os started H enc _ => lifted os started H enc)

/-- THE STATEMENT. -/
theorem proved : Rows.LawS0017BModelSaid := over
#print axioms proved
end Go.Proofs.Ybulkie.lawS0017BModel
