/-
  THE WALK OF replica.LawS0011BRaw.
-/
import Derived.Test.YbulkeyFmtColumn
import Derived.Test.YbulkeyFmtZz
import Derived.Deep.RegionWith
import Derived.Deep.QuietTactic
import Derived.BigQuiet
import Derived.WalkSmall
namespace Go.Proofs.YbulkeyFmt
open Go.RowKit Go.Extern.Stop Go.Stop Go.Extern

set_option maxHeartbeats 800000 in
theorem raw_walk (F : Interp) (s : ByteArray) (w : World) (hF : F.answers w.tape) (hs : s.size ≤ maxLen) :
    Calls Ybaf.prog 3 #[.string s] w fun e w' => e = .returned (.bool true) ∧ Below w.heap.size w w' := by
  by_cases hl : 4096 < s.size
  · unfold maxLen at hs
    go_enter Ybaf.func3, Ybaf.ntmps3
    go_wp2
    go_ret
    exact ⟨rfl, Below.refl _ _⟩
  cases hp : (s.toList == [64, 112, 97, 116, 104]) with
  | true =>
    have HC := fun w => column_path s w hp
    have HZ := fun w => zz_path s w hp
    clear hp
    go_enter Ybaf.func3, Ybaf.ntmps3
    go_wp2
    go_quiet (first | (go_at_call 5; exact Calls.quiet_of_same (HC _)) | (go_at_call 6; exact Calls.quiet_of_same (HZ _)))
    go_wp2
    go_ret
    exact ⟨rfl, below_drewN (Below.refl _ _) _⟩
  | false =>
    cases hi : Plain.ident s with
    | true =>
      have HC := fun w => column_ok s w hs hp hi
      have HZ := fun w => zz_any s w hs hp
      rw [hi] at HZ
      clear hp hi
      unfold maxLen at hs
      go_enter Ybaf.func3, Ybaf.ntmps3
      go_wp2
      go_quiet (first | (go_at_call 5; exact Calls.quiet_of_same (HC _)) | (go_at_call 6; exact Calls.quiet_of_same (HZ _)))
      go_wp2
      go_ret
      exact ⟨rfl, below_drewN (Below.refl _ _) _⟩
    | false =>
      have HC := fun w hF => column_bad F s w hF hs hp hi
      have HZ := fun w => zz_any s w hs hp
      rw [hi] at HZ
      clear hp hi
      unfold maxLen at hs
      go_enter Ybaf.func3, Ybaf.ntmps3
      go_wp2
      go_region_with (first | (go_at_call 5; refine (HC _ ?_).mono ?_; exact hF; rintro e w' ⟨⟨a, rfl⟩, hb⟩) | (go_at_call 6; refine (HZ _).mono ?_; rintro e w' ⟨rfl, rfl⟩))
      all_goals
        go_wp2
        go_ret
        exact ⟨rfl, ((Below.refl _ w).drew).trans (hb.mono (Nat.le_refl _))⟩
end Go.Proofs.YbulkeyFmt
