/-
  THE PLAIN PART: what a name's byte is; no Go in sight.
-/
namespace Go.Proofs.YbulkeyFmt.Plain

/-- A byte that a property's name may hold. -/
def okC (c : UInt8) : Bool := decide ((97 ≤ (c.toNat : Int) ∧ (c.toNat : Int) ≤ 122) ∨ (65 ≤ (c.toNat : Int) ∧ (c.toNat : Int) ≤ 90) ∨ (48 ≤ (c.toNat : Int) ∧ (c.toNat : Int) ≤ 57) ∨ (c.toNat : Int) = 46 ∨ (c.toNat : Int) = 95 ∨ (c.toNat : Int) = 45)

/-- 1 to 64 bytes, each of them such a byte. -/
def ident (s : ByteArray) : Bool := decide (0 < s.size) && decide (s.size ≤ 64) && s.data.toList.all okC

theorem okC_iff (c : UInt8) : okC c = true ↔ ((97 ≤ (c.toNat : Int) ∧ (c.toNat : Int) ≤ 122) ∨ (65 ≤ (c.toNat : Int) ∧ (c.toNat : Int) ≤ 90) ∨ (48 ≤ (c.toNat : Int) ∧ (c.toNat : Int) ≤ 57) ∨ (c.toNat : Int) = 46 ∨ (c.toNat : Int) = 95 ∨ (c.toNat : Int) = 45) := by
  simp [okC]

theorem take_snoc (s : ByteArray) (k : Nat) (h : k < s.size) : s.data.toList.take (k + 1) = s.data.toList.take k ++ [s[k]] := by
  rw [List.take_succ_eq_append_getElem (by simpa using h)]; rfl

theorem all_snoc (s : ByteArray) (k : Nat) (h : k < s.size) (ha : (s.data.toList.take k).all okC = true) (hc : okC s[k] = true) : (s.data.toList.take (k + 1)).all okC = true := by
  rw [take_snoc s k h, List.all_append, ha]; simp [hc]

theorem ident_no (s : ByteArray) (k : Nat) (h : k < s.size) (hc : okC s[k] = false) : ident s = false := by
  unfold ident
  have : s.data.toList.all okC = false := by
    rw [List.all_eq_false]
    exact ⟨s[k], Array.getElem_mem_toList (xs := s.data) h, by simp [hc]⟩
  simp [this]

theorem ident_yes (s : ByteArray) (h0 : 0 < s.size) (h1 : s.size ≤ 64) (k : Nat) (hk : s.size ≤ k) (ha : (s.data.toList.take k).all okC = true) : ident s = true := by
  rw [List.take_of_length_le (by simpa using hk)] at ha
  simp only [ident, ha, h0, h1, decide_true, Bool.and_self]

theorem ident_zero (s : ByteArray) (h : s.size = 0) : ident s = false := by simp [ident, h]
theorem ident_long (s : ByteArray) (h : 64 < s.size) : ident s = false := by
  have : ¬ s.size ≤ 64 := by omega
  simp [ident, this]

/-- The bytes, cut into twelve runs: on each of them every test of the program is decided. -/
theorem okC_runs (c : UInt8) :
    (okC c = true ∧ ((97 ≤ (c.toNat : Int) ∧ (c.toNat : Int) ≤ 122) ∨ (65 ≤ (c.toNat : Int) ∧ (c.toNat : Int) ≤ 90) ∨ (48 ≤ (c.toNat : Int) ∧ (c.toNat : Int) ≤ 57) ∨ (46 ≤ (c.toNat : Int) ∧ (c.toNat : Int) ≤ 46) ∨ (95 ≤ (c.toNat : Int) ∧ (c.toNat : Int) ≤ 95) ∨ (45 ≤ (c.toNat : Int) ∧ (c.toNat : Int) ≤ 45))) ∨
    (okC c = false ∧ ((0 ≤ (c.toNat : Int) ∧ (c.toNat : Int) ≤ 44) ∨ (47 ≤ (c.toNat : Int) ∧ (c.toNat : Int) ≤ 47) ∨ (58 ≤ (c.toNat : Int) ∧ (c.toNat : Int) ≤ 64) ∨ (91 ≤ (c.toNat : Int) ∧ (c.toNat : Int) ≤ 94) ∨ (96 ≤ (c.toNat : Int) ∧ (c.toNat : Int) ≤ 96) ∨ (123 ≤ (c.toNat : Int) ∧ (c.toNat : Int) ≤ 255))) := by
  have hb : (c.toNat : Int) ≤ 255 := by have := c.toNat_lt; omega
  cases h : okC c with
  | true => exact Or.inl ⟨rfl, by have := (okC_iff c).1 h; omega⟩
  | false =>
    have hn : ¬ okC c = true := by rw [h]; decide
    rw [okC_iff] at hn
    exact Or.inr ⟨rfl, by omega⟩

end Go.Proofs.YbulkeyFmt.Plain
