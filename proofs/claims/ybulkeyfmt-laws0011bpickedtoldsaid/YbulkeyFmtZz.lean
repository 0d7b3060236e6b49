/-
  THE WALK OF replica.zzs0011bok: true at '@path', else 'Plain.ident'.
-/
import Derived.Test.YbulkeyFmtIdent
namespace Go.Proofs.YbulkeyFmt
open Go.RowKit Go.Extern.Stop Go.Stop Go.Extern

theorem zz_path (s : ByteArray) (w : World) (hp : (s.toList == [64, 112, 97, 116, 104]) = true) :
    Calls Ybaf.prog 6 #[.string s] w fun e w' => e = .returned (.bool true) ∧ w' = w := by
  go_enter Ybaf.func6, Ybaf.ntmps6
  go_wp2
  go_ret
  exact ⟨rfl, rfl⟩

set_option maxHeartbeats 1600000 in
/-- The law's own restatement answers 'ident', too, but at '@path'. -/
theorem zz_any (s : ByteArray) (w : World) (hs : s.size ≤ maxLen) (hp : (s.toList == [64, 112, 97, 116, 104]) = false) :
    Calls Ybaf.prog 6 #[.string s] w fun e w' => e = .returned (.bool (Plain.ident s)) ∧ w' = w := by
  unfold maxLen at hs
  by_cases h0 : s.size = 0
  · have HI := hide (Plain.ident_zero s h0)
    have e0 : ((s.size : Int) == 0) = true := by simp [h0]
    clear h0
    go_enter Ybaf.func6, Ybaf.ntmps6
    go_wp2
    go_ret
    exact ⟨ret_bool (unhide HI).symm, rfl⟩
  have e0 : ((s.size : Int) == 0) = false := beq_eq_false_iff_ne.2 (by omega)
  by_cases h1 : 64 < s.size
  · have HI := hide (Plain.ident_long s h1)
    go_enter Ybaf.func6, Ybaf.ntmps6
    go_wp2
    go_ret
    exact ⟨ret_bool (unhide HI).symm, rfl⟩
  have h1' : s.size ≤ 64 := by omega
  go_enter Ybaf.func6, Ybaf.ntmps6
  go_wp2
  go_loop [3] (fun i => ∃ k : Nat, k ≤ s.size ∧ i = .int .i64 k ∧ Hid ((s.data.toList.take k).all Plain.okC = true)) (fun i => s.size - (intOf i).toNat)
  case atStart => exact ⟨0, Nat.zero_le _, rfl, hide rfl⟩
  case round =>
    obtain ⟨k, hk, rfl, HA⟩ := hrel
    by_cases hlt : k < s.size
    · rcases Plain.okC_runs s[k] with ⟨hc, h | h | h | h | h | h⟩ | ⟨hc, h | h | h | h | h | h⟩
      iterate 6
        · have HY := hide (Plain.all_snoc s k hlt (unhide HA) hc)
          clear hc
          obtain ⟨hl, hu⟩ := h
          go_wp2
          all_goals first | (go_round; (case rel => exact ⟨k + 1, by omega, by go_num, HY⟩); (case measure => simp [intOf]; omega)) | (exfalso; have hx := (‹_ ∧ (((s[k].toNat : Int) != 45)) = true›).2; simp at hx; omega)
      all_goals
        have HN := hide (Plain.ident_no s k hlt hc)
        clear hc
        obtain ⟨hl, hu⟩ := h
        go_wp2
        all_goals first | (go_ret; exact ⟨ret_bool (unhide HN).symm, rfl⟩) | (rename_i hx; exfalso; simp at hx; omega)
    · have HY := hide (Plain.ident_yes s (by omega) h1' k (by omega) (unhide HA))
      go_wp2
      go_ret
      exact ⟨ret_bool (unhide HY).symm, rfl⟩

end Go.Proofs.YbulkeyFmt
