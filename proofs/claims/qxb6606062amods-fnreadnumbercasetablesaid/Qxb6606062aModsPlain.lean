/-
  THE PLAIN LAWS of seat b6606062aM: no Go in sight. The exponent of a JSON number, as a function of the bytes.
-/
namespace Go.Proofs.Qxb6606062aMods.Nu

/-- The exponent's value, read digit by digit from e on; from 2^40 on it stands still. -/
def ev : List Int → Int → Int
  | [], e => e
  | c :: r, e => if 48 ≤ c ∧ c ≤ 57 then ev r (if e < 1099511627776 then e * 10 + (c - 48) else e) else e

/-- How many digits l begins with. -/
def dn : List Int → Nat
  | [] => 0
  | c :: r => if 48 ≤ c ∧ c ≤ 57 then dn r + 1 else 0

/-- What exponentOf answers: the exponent. -/
def exE : List Int → Int
  | [] => 0
  | c :: r => if c = 45 then -(ev r 0) else if c = 43 then ev r 0 else ev (c :: r) 0

/-- What exponentOf answers: the length. -/
def exL : List Int → Nat
  | [] => 0
  | c :: r => if c = 45 ∨ c = 43 then 1 + dn r else dn (c :: r)

theorem dn_le (l : List Int) : dn l ≤ l.length := by
  induction l with
  | nil => simp [dn]
  | cons x r ih => simp only [dn]; split <;> simp <;> omega

theorem exL_le (l : List Int) : exL l ≤ l.length := by
  cases l with
  | nil => simp [exL]
  | cons c r =>
    simp only [exL]
    split
    · have := dn_le r; simp; omega
    · exact dn_le (c :: r)

theorem ev_bd (l : List Int) (e : Int) (h0 : 0 ≤ e) (h1 : e ≤ 10995116277769) : 0 ≤ ev l e ∧ ev l e ≤ 10995116277769 := by
  induction l generalizing e with
  | nil => exact ⟨h0, h1⟩
  | cons c r ih =>
    unfold ev
    split
    · split
      · exact ih _ (by omega) (by omega)
      · exact ih _ h0 h1
    · exact ⟨h0, h1⟩

/-- No sign at the head. -/
def unsigned (l : List Int) : Prop := ∀ c r, l = c :: r → c ≠ 45 ∧ c ≠ 43

theorem exE_unsigned (l : List Int) (h : unsigned l) : exE l = ev l 0 := by
  cases l with
  | nil => rfl
  | cons c r => obtain ⟨h1, h2⟩ := h c r rfl; simp [exE, h1, h2]
theorem exL_unsigned (l : List Int) (h : unsigned l) : exL l = dn l := by
  cases l with
  | nil => rfl
  | cons c r => obtain ⟨h1, h2⟩ := h c r rfl; simp [exL, h1, h2]
theorem exE_minus (l : List Int) : exE (45 :: l) = -(ev l 0) := by simp [exE]
theorem exE_plus (l : List Int) : exE (43 :: l) = ev l 0 := by simp [exE]
theorem exL_minus (l : List Int) : exL (45 :: l) = 1 + dn l := by simp [exL]
theorem exL_plus (l : List Int) : exL (43 :: l) = 1 + dn l := by simp [exL]
theorem exE_zero (l : List Int) : exE (48 :: l) = ev l 0 := by simp [exE, ev]
theorem exL_zero (l : List Int) : exL (48 :: l) = 1 + dn l := by simp [exL, dn]; omega

end Go.Proofs.Qxb6606062aMods.Nu
