/-
  THE WALKS OF wire.CheckName AND replica.CheckColumn.
-/
import Derived.Test.YbulkeyFmtIdent
namespace Go.Proofs.YbulkeyFmt
open Go.RowKit Go.Extern.Stop Go.Stop Go.Extern

theorem name_ok (s : ByteArray) (w : World) (hs : s.size ≤ maxLen) (hi : Plain.ident s = true) :
    Calls Ybaf.prog 7 #[.string s] w fun e w' => e = .returned .nilIface ∧ w' = w := by
  go_enter Ybaf.func7, Ybaf.ntmps7
  go_wp2_with (go_at_call 8; refine (isIdent_any _ _ hs).mono ?_; rintro e w' ⟨rfl, rfl⟩)
  go_ret
  exact ⟨rfl, rfl⟩

theorem name_bad (F : Interp) (s : ByteArray) (w : World) (hF : F.answers w.tape) (hs : s.size ≤ maxLen) (hi : Plain.ident s = false) :
    Calls Ybaf.prog 7 #[.string s] w fun e w' => (∃ a, e = .returned (.iface 31 (.pointer (some a)))) ∧ Below w.heap.size w w' := by
  go_enter Ybaf.func7, Ybaf.ntmps7
  go_wp2_with (go_at_call 8; refine (isIdent_any _ _ hs).mono ?_; rintro e w' ⟨rfl, rfl⟩)
  refine (errorf_name F _ _ _ _ (by exact hF) (by go_simp; rfl) (by go_simp; rfl)).mono ?_
  rintro e w1 ⟨rfl, hg⟩
  go_wp2
  go_ret
  exact ⟨⟨_, rfl⟩, ((Below.refl _ _).alloc (Nat.le_refl _) _).trans (hg.mono (by simp))⟩

theorem column_path (s : ByteArray) (w : World) (hp : (s.toList == [64, 112, 97, 116, 104]) = true) :
    Calls Ybaf.prog 5 #[.string s] w fun e w' => e = .returned .nilIface ∧ w' = w := by
  go_enter Ybaf.func5, Ybaf.ntmps5
  go_wp2
  go_ret
  exact ⟨rfl, rfl⟩

theorem column_ok (s : ByteArray) (w : World) (hs : s.size ≤ maxLen) (hp : (s.toList == [64, 112, 97, 116, 104]) = false) (hi : Plain.ident s = true) :
    Calls Ybaf.prog 5 #[.string s] w fun e w' => e = .returned .nilIface ∧ w' = w := by
  go_enter Ybaf.func5, Ybaf.ntmps5
  go_wp2_with (go_at_call 7; refine (name_ok _ _ hs hi).mono ?_; rintro e w' ⟨rfl, rfl⟩)
  go_ret
  exact ⟨rfl, rfl⟩

theorem column_bad (F : Interp) (s : ByteArray) (w : World) (hF : F.answers w.tape) (hs : s.size ≤ maxLen) (hp : (s.toList == [64, 112, 97, 116, 104]) = false) (hi : Plain.ident s = false) :
    Calls Ybaf.prog 5 #[.string s] w fun e w' => (∃ a, e = .returned (.iface 31 (.pointer (some a)))) ∧ Below w.heap.size w w' := by
  go_enter Ybaf.func5, Ybaf.ntmps5
  go_wp2_with (go_at_call 7; refine (name_bad F _ _ (by exact hF) hs hi).mono ?_; rintro e w' ⟨⟨a, rfl⟩, hg⟩)
  go_ret
  exact ⟨⟨_, rfl⟩, hg⟩

end Go.Proofs.YbulkeyFmt
