/-
  THE WALK OF replica.LawS0011BPicked: the bytes are gathered in a row of the call's own; what they are does not matter: the two answers agree at every string.
-/
import Derived.Test.YbulkeyFmtColumn
import Derived.Test.YbulkeyFmtZz
import Derived.Deep.RegionWith
import Derived.Deep.QuietTactic
import Derived.BigQuiet
import Derived.WalkSmall
import Derived.Laws.BytesArg
namespace Go.Proofs.YbulkeyFmt
open Go.RowKit Go.Extern.Stop Go.Stop Go.Extern

theorem info5 : (Ybaf.prog.info? 5).map (fun i => (i.zero, i.size, i.bytes)) = some (some (.int .u8 0), 1, 1) := by kernel_rfl

theorem cell_five_new (w : World) : ∀ j u, ([64, 112, 97, 116, 104].map (Value.int .u8))[j]? = some u → (w.alloc (.cells #[.int .u8 64, .int .u8 112, .int .u8 97, .int .u8 116, .int .u8 104] 5)).cell? ((⟨w.heap.size, 0, none⟩ : Addr).add j) = some u := by
  intro j u hj
  match j, hj with
  | 0, hj => simp at hj; subst hj; simp [Addr.add]
  | 1, hj => simp at hj; subst hj; simp [Addr.add]
  | 2, hj => simp at hj; subst hj; simp [Addr.add]
  | 3, hj => simp at hj; subst hj; simp [Addr.add]
  | 4, hj => simp at hj; subst hj; simp [Addr.add]
  | (j + 5), hj => simp at hj

theorem one_cell (x : Int) : ∀ u ∈ [Value.int .u8 x], u.oneCell' = true := ints_oneCell .u8 [x]

/-- Every value of the list is a byte's. -/
def Bytes (vs : List Value) : Prop := ∀ v ∈ vs, ∃ x, v = .int .u8 x
theorem bytes_nil : Bytes [] := by intro v hv; cases hv
theorem bytes_map (xs : List Int) : Bytes (xs.map (Value.int .u8)) := by
  intro v hv
  obtain ⟨x, _, rfl⟩ := List.mem_map.1 hv
  exact ⟨x, rfl⟩
theorem bytes_snoc {vs : List Value} (h : Bytes vs) (x : Int) : Bytes (vs ++ [.int .u8 x]) := by
  intro v hv
  rcases List.mem_append.1 hv with hv | hv
  · exact h v hv
  · exact ⟨x, by simpa using hv⟩
theorem bytes_nums : ∀ (vs : List Value), Bytes vs → ∃ xs : List Int, vs = xs.map (Value.int .u8)
  | [], _ => ⟨[], rfl⟩
  | v :: vs, h => by
    obtain ⟨x, rfl⟩ := h v (List.mem_cons_self ..)
    obtain ⟨xs, rfl⟩ := bytes_nums vs (fun u hu => h u (List.mem_cons_of_mem _ hu))
    exact ⟨x :: xs, rfl⟩

/-- 'string(b)' of such a row. -/
theorem row_string {w : World} {B m c : Nat} {vs : List Value} (hb : Bytes vs) (h : w.ownsRow B 5 1 (.slice (some ⟨B, 0, none⟩) m c) m vs) :
    ∃ s : ByteArray, s.size = m ∧ (convert 26 9 (.slice (some ⟨B, 0, none⟩) m c)).run Ybaf.prog w = .ok (.string s) w := by
  obtain ⟨xs, rfl⟩ := bytes_nums vs hb
  have hl : xs.length = m := by have := h.1; simpa using this
  refine ⟨strOfNums xs, by rw [strOfNums_size, hl], ?_⟩
  refine run_convert_bytes_arg w 26 5 Ybaf.underlying26 Ybaf.underlying5 B 0 m c xs hl (fun i hi => ?_) 9 Ybaf.underlying9
  rw [Nat.zero_add, h.cellAt i (by omega)]
  have hi' : i < xs.length := by omega
  simp [List.getD, hi']

/-- The two callees at one string: both say yes and touch nothing, or both say no. -/
theorem agree (F : Interp) (s : ByteArray) (hs : s.size ≤ maxLen) :
    ((∀ w, Calls Ybaf.prog 5 #[.string s] w fun e w' => e = .returned .nilIface ∧ w' = w) ∧ (∀ w, Calls Ybaf.prog 6 #[.string s] w fun e w' => e = .returned (.bool true) ∧ w' = w)) ∨
    ((∀ w, F.answers w.tape → Calls Ybaf.prog 5 #[.string s] w fun e w' => (∃ a, e = .returned (.iface 31 (.pointer (some a)))) ∧ Below w.heap.size w w') ∧ (∀ w, Calls Ybaf.prog 6 #[.string s] w fun e w' => e = .returned (.bool false) ∧ w' = w)) := by
  cases hp : (s.toList == [64, 112, 97, 116, 104]) with
  | true => exact Or.inl ⟨fun w => column_path s w hp, fun w => zz_path s w hp⟩
  | false =>
    cases hi : Plain.ident s with
    | true => exact Or.inl ⟨fun w => column_ok s w hs hp hi, fun w => by have := zz_any s w hs hp; rw [hi] at this; exact this⟩
    | false => exact Or.inr ⟨fun w hF => column_bad F s w hF hs hp hi, fun w => by have := zz_any s w hs hp; rw [hi] at this; exact this⟩

theorem picked_long (a0 : Option Addr) (n cap : Nat) (path : Bool) (w : World) (hn : 1024 < n) :
    Calls Ybaf.prog 4 #[.slice a0 n cap, .bool path] w fun e w' => e = .returned (.bool true) ∧ Below w.heap.size w w' := by
  go_enter Ybaf.func4, Ybaf.ntmps4
  go_wp2
  go_ret
  exact ⟨rfl, Below.refl _ _⟩

set_option maxHeartbeats 1600000 in
theorem picked_some_path (F : Interp) (b off n cap : Nat) (zs : List Int) (w : World) (hF : F.answers w.tape) (hn : n ≤ 1024) (hbw : b < w.heap.size)
    (hc : ∀ k, k < n → w.cell? ⟨b, off + k, none⟩ = some (.int .u8 (zs.getD k 0))) (hz : ∀ k, k < n → 0 ≤ zs.getD k 0 ∧ zs.getD k 0 ≤ 255) :
    Calls Ybaf.prog 4 #[.slice (some ⟨b, off, none⟩) n cap, .bool true] w fun e w' => e = .returned (.bool true) ∧ Below w.heap.size w w' := by
  obtain ⟨i0, hi, hz0, hz1, hz2⟩ := info_parts info5
  go_enter Ybaf.func4, Ybaf.ntmps4
  go_wp2_with (at_make; refine wpList_make_own _ rfl _ _ 26 rfl w.heap.size 5 i0 (.int .u8 0) 1 Ybaf.underlying26 hi hz0 hz1 _ _ _ (n + 5) rfl rfl (by omega) ?b2 ?b3 (Nat.le_refl _) ?_)
  case b2 => rw [hz2]; omega
  case b3 => unfold maxLen; omega
  intro w1 hown hgrow
  have hb1 : Below w.heap.size w w1 := (Below.refl _ _).grown hgrow (Nat.le_refl _) (fun _ h => by cases h)
  go_wp2_with (at_builtin; refine wpList_append_fits _ rfl (.tmp 16) (.tmp 17) 26 rfl w.heap.size 5 i0 1 Ybaf.underlying26 hi hz1 w.heap.size 0 (n + 5) [] rfl (hown.alloc _) ⟨w1.heap.size, 0, none⟩ 5 5 ([64, 112, 97, 116, 104].map (Value.int .u8)) rfl rfl (cell_five_new _) (ints_oneCell .u8 _) (by omega) ?_; intro w2 hown2 hgrow2)
  have hb2 : Below w.heap.size w w2 := ((hb1.alloc hb1.size _).grown hgrow2 (by have := hb1.size; simp; omega) (fun k h => by cases h; exact Nat.le_refl _))
  clear hown hgrow hgrow2 hb1
  go_loopw [5, 6] (fun v i wr => ∃ (k : Nat) (vs : List Value), k ≤ n ∧ i = .int .i64 k ∧ v = .slice (some ⟨w.heap.size, 0, none⟩) (5 + k) (n + 5) ∧ Hid (Bytes vs) ∧ wr.ownsRow w.heap.size 5 1 (.slice (some ⟨w.heap.size, 0, none⟩) (5 + k) (n + 5)) (5 + k) vs ∧ Below w.heap.size w wr) (fun _ i _ => n - (intOf i).toNat)
  case atStart => exact ⟨0, _, Nat.zero_le _, rfl, rfl, hide (bytes_map [64, 112, 97, 116, 104]), hown2, hb2⟩
  case round =>
    obtain ⟨k, vs, hk, rfl, rfl, HB, hown, hnx⟩ := hrel
    have hwr := hnx.size
    by_cases hlt : k < n
    · obtain ⟨z, hcx, hzl, hzu⟩ : ∃ z, wr.cell? ⟨b, off + k, none⟩ = some (.int .u8 z) ∧ 0 ≤ z ∧ z ≤ 255 := ⟨_, (hnx.cell (by exact hbw)).trans (hc k hlt), hz k hlt⟩
      go_wp2_with (at_builtin; refine wpList_append_fits _ rfl (.tmp 25) (.tmp 33) 26 rfl w.heap.size 5 i0 1 Ybaf.underlying26 hi hz1 w.heap.size (5 + k) (n + 5) vs rfl (hown.alloc _) ⟨wr.heap.size, 0, none⟩ 1 1 [_] rfl rfl (cell_one_new _ _ _) (one_cell _) (by omega) ?_; intro w3 hown3 hgrow3)
      have hb3 : Below w.heap.size w w3 := ((hnx.alloc hnx.size _).grown hgrow3 (by simp; omega) (fun k h => by cases h; exact Nat.le_refl _))
      go_roundw
      case rel => exact ⟨k + 1, _, by omega, by go_num, rfl, hide (bytes_snoc (unhide HB) _), hown3, hb3⟩
      case measure => simp [intOf]; omega
    · obtain ⟨s, hsl, hcv⟩ := row_string (unhide HB) hown
      have HS := hide hsl
      rcases agree F s (by rw [hsl]; unfold maxLen; omega) with ⟨HC, HZ⟩ | ⟨HC, HZ⟩
      · clear hsl
        go_wp2
        go_quiet (first | (go_at_call 5; exact Calls.quiet_of_same (HC _)) | (go_at_call 6; exact Calls.quiet_of_same (HZ _)))
        go_wp2
        go_ret
        exact ⟨rfl, below_drewN hnx _⟩
      · clear hsl
        have hFr : F.answers wr.tape := by rw [hnx.tape]; exact hF
        go_wp2
        go_region_with (first | (go_at_call 5; refine (HC _ ?_).mono ?_; exact hFr; rintro e w' ⟨⟨a, rfl⟩, hb⟩) | (go_at_call 6; refine (HZ _).mono ?_; rintro e w' ⟨rfl, rfl⟩))
        all_goals
          go_wp2
          go_ret
          exact ⟨rfl, (hnx.drew).trans (hb.mono hwr)⟩

set_option maxHeartbeats 1600000 in
theorem picked_some_bare (F : Interp) (b off n cap : Nat) (zs : List Int) (w : World) (hF : F.answers w.tape) (hn : n ≤ 1024) (hbw : b < w.heap.size)
    (hc : ∀ k, k < n → w.cell? ⟨b, off + k, none⟩ = some (.int .u8 (zs.getD k 0))) (hz : ∀ k, k < n → 0 ≤ zs.getD k 0 ∧ zs.getD k 0 ≤ 255) :
    Calls Ybaf.prog 4 #[.slice (some ⟨b, off, none⟩) n cap, .bool false] w fun e w' => e = .returned (.bool true) ∧ Below w.heap.size w w' := by
  obtain ⟨i0, hi, hz0, hz1, hz2⟩ := info_parts info5
  go_enter Ybaf.func4, Ybaf.ntmps4
  go_wp2_with (at_make; refine wpList_make_own _ rfl _ _ 26 rfl w.heap.size 5 i0 (.int .u8 0) 1 Ybaf.underlying26 hi hz0 hz1 _ _ _ (n + 5) rfl rfl (by omega) ?b2 ?b3 (Nat.le_refl _) ?_)
  case b2 => rw [hz2]; omega
  case b3 => unfold maxLen; omega
  intro w1 hown hgrow
  have hb1 : Below w.heap.size w w1 := (Below.refl _ _).grown hgrow (Nat.le_refl _) (fun _ h => by cases h)
  go_wp2
  go_loopw [5, 6] (fun v i wr => ∃ (k : Nat) (vs : List Value), k ≤ n ∧ i = .int .i64 k ∧ v = .slice (some ⟨w.heap.size, 0, none⟩) (k) (n + 5) ∧ Hid (Bytes vs) ∧ wr.ownsRow w.heap.size 5 1 (.slice (some ⟨w.heap.size, 0, none⟩) (k) (n + 5)) (k) vs ∧ Below w.heap.size w wr) (fun _ i _ => n - (intOf i).toNat)
  case atStart => exact ⟨0, _, Nat.zero_le _, rfl, rfl, hide bytes_nil, hown, hb1⟩
  case round =>
    obtain ⟨k, vs, hk, rfl, rfl, HB, hown, hnx⟩ := hrel
    have hwr := hnx.size
    by_cases hlt : k < n
    · obtain ⟨z, hcx, hzl, hzu⟩ : ∃ z, wr.cell? ⟨b, off + k, none⟩ = some (.int .u8 z) ∧ 0 ≤ z ∧ z ≤ 255 := ⟨_, (hnx.cell (by exact hbw)).trans (hc k hlt), hz k hlt⟩
      go_wp2_with (at_builtin; refine wpList_append_fits _ rfl (.tmp 25) (.tmp 33) 26 rfl w.heap.size 5 i0 1 Ybaf.underlying26 hi hz1 w.heap.size (k) (n + 5) vs rfl (hown.alloc _) ⟨wr.heap.size, 0, none⟩ 1 1 [_] rfl rfl (cell_one_new _ _ _) (one_cell _) (by omega) ?_; intro w3 hown3 hgrow3)
      have hb3 : Below w.heap.size w w3 := ((hnx.alloc hnx.size _).grown hgrow3 (by simp; omega) (fun k h => by cases h; exact Nat.le_refl _))
      go_roundw
      case rel => exact ⟨k + 1, _, by omega, by go_num, rfl, hide (bytes_snoc (unhide HB) _), hown3, hb3⟩
      case measure => simp [intOf]; omega
    · obtain ⟨s, hsl, hcv⟩ := row_string (unhide HB) hown
      have HS := hide hsl
      rcases agree F s (by rw [hsl]; unfold maxLen; omega) with ⟨HC, HZ⟩ | ⟨HC, HZ⟩
      · clear hsl
        go_wp2
        go_quiet (first | (go_at_call 5; exact Calls.quiet_of_same (HC _)) | (go_at_call 6; exact Calls.quiet_of_same (HZ _)))
        go_wp2
        go_ret
        exact ⟨rfl, below_drewN hnx _⟩
      · clear hsl
        have hFr : F.answers wr.tape := by rw [hnx.tape]; exact hF
        go_wp2
        go_region_with (first | (go_at_call 5; refine (HC _ ?_).mono ?_; exact hFr; rintro e w' ⟨⟨a, rfl⟩, hb⟩) | (go_at_call 6; refine (HZ _).mono ?_; rintro e w' ⟨rfl, rfl⟩))
        all_goals
          go_wp2
          go_ret
          exact ⟨rfl, (hnx.drew).trans (hb.mono hwr)⟩

set_option maxHeartbeats 1600000 in
theorem picked_none_path (F : Interp) (a0 : Option Addr) (cap : Nat) (w : World) (hF : F.answers w.tape) :
    Calls Ybaf.prog 4 #[.slice a0 0 cap, .bool true] w fun e w' => e = .returned (.bool true) ∧ Below w.heap.size w w' := by
  obtain ⟨i0, hi, hz0, hz1, hz2⟩ := info_parts info5
  go_enter Ybaf.func4, Ybaf.ntmps4
  go_wp2_with (at_make; refine wpList_make_own _ rfl _ _ 26 rfl w.heap.size 5 i0 (.int .u8 0) 1 Ybaf.underlying26 hi hz0 hz1 _ _ _ (0 + 5) rfl rfl (by omega) ?b2 ?b3 (Nat.le_refl _) ?_)
  case b2 => rw [hz2]; omega
  case b3 => unfold maxLen; omega
  intro w1 hown hgrow
  have hb1 : Below w.heap.size w w1 := (Below.refl _ _).grown hgrow (Nat.le_refl _) (fun _ h => by cases h)
  go_wp2_with (at_builtin; refine wpList_append_fits _ rfl (.tmp 16) (.tmp 17) 26 rfl w.heap.size 5 i0 1 Ybaf.underlying26 hi hz1 w.heap.size 0 (0 + 5) [] rfl (hown.alloc _) ⟨w1.heap.size, 0, none⟩ 5 5 ([64, 112, 97, 116, 104].map (Value.int .u8)) rfl rfl (cell_five_new _) (ints_oneCell .u8 _) (by omega) ?_; intro w2 hown2 hgrow2)
  have hb2 : Below w.heap.size w w2 := ((hb1.alloc hb1.size _).grown hgrow2 (by have := hb1.size; simp; omega) (fun k h => by cases h; exact Nat.le_refl _))
  clear hown hgrow hgrow2 hb1
  go_loopw [5, 6] (fun v i wr => ∃ (k : Nat) (vs : List Value), k ≤ 0 ∧ i = .int .i64 k ∧ v = .slice (some ⟨w.heap.size, 0, none⟩) (5 + k) (0 + 5) ∧ Hid (Bytes vs) ∧ wr.ownsRow w.heap.size 5 1 (.slice (some ⟨w.heap.size, 0, none⟩) (5 + k) (0 + 5)) (5 + k) vs ∧ Below w.heap.size w wr) (fun _ i _ => 0 - (intOf i).toNat)
  case atStart => exact ⟨0, _, Nat.zero_le _, rfl, rfl, hide (bytes_map [64, 112, 97, 116, 104]), hown2, hb2⟩
  case round =>
    obtain ⟨k, vs, hk, rfl, rfl, HB, hown, hnx⟩ := hrel
    have hwr := hnx.size
    have hlt : ¬ k < 0 := by omega
    · obtain ⟨s, hsl, hcv⟩ := row_string (unhide HB) hown
      have HS := hide hsl
      rcases agree F s (by rw [hsl]; unfold maxLen; omega) with ⟨HC, HZ⟩ | ⟨HC, HZ⟩
      · clear hsl
        go_wp2
        go_quiet (first | (go_at_call 5; exact Calls.quiet_of_same (HC _)) | (go_at_call 6; exact Calls.quiet_of_same (HZ _)))
        go_wp2
        go_ret
        exact ⟨rfl, below_drewN hnx _⟩
      · clear hsl
        have hFr : F.answers wr.tape := by rw [hnx.tape]; exact hF
        go_wp2
        go_region_with (first | (go_at_call 5; refine (HC _ ?_).mono ?_; exact hFr; rintro e w' ⟨⟨a, rfl⟩, hb⟩) | (go_at_call 6; refine (HZ _).mono ?_; rintro e w' ⟨rfl, rfl⟩))
        all_goals
          go_wp2
          go_ret
          exact ⟨rfl, (hnx.drew).trans (hb.mono hwr)⟩

set_option maxHeartbeats 1600000 in
theorem picked_none_bare (F : Interp) (a0 : Option Addr) (cap : Nat) (w : World) (hF : F.answers w.tape) :
    Calls Ybaf.prog 4 #[.slice a0 0 cap, .bool false] w fun e w' => e = .returned (.bool true) ∧ Below w.heap.size w w' := by
  obtain ⟨i0, hi, hz0, hz1, hz2⟩ := info_parts info5
  go_enter Ybaf.func4, Ybaf.ntmps4
  go_wp2_with (at_make; refine wpList_make_own _ rfl _ _ 26 rfl w.heap.size 5 i0 (.int .u8 0) 1 Ybaf.underlying26 hi hz0 hz1 _ _ _ (0 + 5) rfl rfl (by omega) ?b2 ?b3 (Nat.le_refl _) ?_)
  case b2 => rw [hz2]; omega
  case b3 => unfold maxLen; omega
  intro w1 hown hgrow
  have hb1 : Below w.heap.size w w1 := (Below.refl _ _).grown hgrow (Nat.le_refl _) (fun _ h => by cases h)
  go_wp2
  go_loopw [5, 6] (fun v i wr => ∃ (k : Nat) (vs : List Value), k ≤ 0 ∧ i = .int .i64 k ∧ v = .slice (some ⟨w.heap.size, 0, none⟩) (k) (0 + 5) ∧ Hid (Bytes vs) ∧ wr.ownsRow w.heap.size 5 1 (.slice (some ⟨w.heap.size, 0, none⟩) (k) (0 + 5)) (k) vs ∧ Below w.heap.size w wr) (fun _ i _ => 0 - (intOf i).toNat)
  case atStart => exact ⟨0, _, Nat.zero_le _, rfl, rfl, hide bytes_nil, hown, hb1⟩
  case round =>
    obtain ⟨k, vs, hk, rfl, rfl, HB, hown, hnx⟩ := hrel
    have hwr := hnx.size
    have hlt : ¬ k < 0 := by omega
    · obtain ⟨s, hsl, hcv⟩ := row_string (unhide HB) hown
      have HS := hide hsl
      rcases agree F s (by rw [hsl]; unfold maxLen; omega) with ⟨HC, HZ⟩ | ⟨HC, HZ⟩
      · clear hsl
        go_wp2
        go_quiet (first | (go_at_call 5; exact Calls.quiet_of_same (HC _)) | (go_at_call 6; exact Calls.quiet_of_same (HZ _)))
        go_wp2
        go_ret
        exact ⟨rfl, below_drewN hnx _⟩
      · clear hsl
        have hFr : F.answers wr.tape := by rw [hnx.tape]; exact hF
        go_wp2
        go_region_with (first | (go_at_call 5; refine (HC _ ?_).mono ?_; exact hFr; rintro e w' ⟨⟨a, rfl⟩, hb⟩) | (go_at_call 6; refine (HZ _).mono ?_; rintro e w' ⟨rfl, rfl⟩))
        all_goals
          go_wp2
          go_ret
          exact ⟨rfl, (hnx.drew).trans (hb.mono hwr)⟩

end Go.Proofs.YbulkeyFmt
