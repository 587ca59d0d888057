/-
  THE PLAIN LAWS of seat b6606062aM, more: the exponent as a case table over its significant digits. No Go in sight.
-/
import Derived.Test.Qxb6606062aModsPlain
namespace Go.Proofs.Qxb6606062aMods.Nu

/-- How many digits there are in l. -/
def cnt : List Int → Nat
  | [] => 0
  | c :: r => if 48 ≤ c ∧ c ≤ 57 then cnt r + 1 else cnt r

/-- The value of l's digits, other bytes passed over. -/
def pv : List Int → Int
  | [] => 0
  | c :: r => if 48 ≤ c ∧ c ≤ 57 then (c - 48) * 10 ^ cnt r + pv r else pv r

/-- How many zeros l begins with. -/
def zn : List Int → Nat
  | [] => 0
  | c :: r => if c = 48 then zn r + 1 else 0

theorem pow_pos10 (n : Nat) : (0 : Int) < 10 ^ n := Int.pow_pos (by decide)

theorem pow_mono (a b : Nat) (h : a ≤ b) : (10 : Int) ^ a ≤ 10 ^ b := by
  obtain ⟨d, rfl⟩ := Nat.exists_eq_add_of_le h
  rw [Int.pow_add]
  have h1 := pow_pos10 a
  have h2 := pow_pos10 d
  have := Int.mul_le_mul_of_nonneg_left (show (1 : Int) ≤ 10 ^ d by omega) (show (0 : Int) ≤ 10 ^ a by omega)
  rw [Int.mul_one] at this
  exact this

theorem mul_bd (c P : Int) (h1 : 48 ≤ c) (h2 : c ≤ 57) (hP : 0 < P) : 0 ≤ (c - 48) * P ∧ (c - 48) * P ≤ 9 * P :=
  ⟨Int.mul_nonneg (by omega) (by omega), Int.mul_le_mul_of_nonneg_right (by omega) (by omega)⟩

theorem pv_bd (l : List Int) : 0 ≤ pv l ∧ pv l < 10 ^ cnt l := by
  induction l with
  | nil => exact ⟨by simp [pv], by simp [pv, cnt]⟩
  | cons c r ih =>
    simp only [pv, cnt]
    split
    · rename_i h
      have := mul_bd c (10 ^ cnt r) h.1 h.2 (pow_pos10 _)
      rw [Int.pow_succ]
      omega
    · exact ih

theorem pv_cons (c : Int) (r : List Int) (h1 : 48 ≤ c) (h2 : c ≤ 57) : pv (c :: r) = (c - 48) * 10 ^ cnt r + pv r := by simp [pv, h1, h2]
theorem cnt_cons (c : Int) (r : List Int) (h1 : 48 ≤ c) (h2 : c ≤ 57) : cnt (c :: r) = cnt r + 1 := by simp [cnt, h1, h2]
theorem pv_skip (c : Int) (r : List Int) (h : ¬ (48 ≤ c ∧ c ≤ 57)) : pv (c :: r) = pv r := by simp only [pv, h, if_false]
theorem cnt_skip (c : Int) (r : List Int) (h : ¬ (48 ≤ c ∧ c ≤ 57)) : cnt (c :: r) = cnt r := by simp only [cnt, h, if_false]

theorem cnt_snoc (l : List Int) (c : Int) (h1 : 48 ≤ c) (h2 : c ≤ 57) : cnt (l ++ [c]) = cnt l + 1 := by
  induction l with
  | nil => simp [cnt, h1, h2]
  | cons x r ih => simp only [List.cons_append, cnt, ih]; split <;> rfl
theorem pv_snoc (l : List Int) (c : Int) (h1 : 48 ≤ c) (h2 : c ≤ 57) : pv (l ++ [c]) = pv l * 10 + (c - 48) := by
  induction l with
  | nil => simp [pv, cnt, h1, h2]
  | cons x r ih =>
    simp only [List.cons_append, pv, ih, cnt_snoc r c h1 h2]
    split
    · rw [Int.pow_succ, Int.add_mul, Int.mul_assoc, Int.add_assoc]
    · rfl

theorem cnt_le (l : List Int) : cnt l ≤ l.length := by
  induction l with
  | nil => simp [cnt]
  | cons c r ih => simp only [cnt]; split <;> simp <;> omega

/-- The first m bytes are digits where m is no more than the run. -/
theorem cnt_take (l : List Int) (m : Nat) (h : m ≤ dn l) : cnt (l.take m) = m := by
  induction l generalizing m with
  | nil => simp [dn] at h; subst h; rfl
  | cons c r ih =>
    match m with
    | 0 => rfl
    | m + 1 =>
      by_cases hd : 48 ≤ c ∧ c ≤ 57
      · rw [List.take_succ_cons, cnt_cons c _ hd.1 hd.2, ih m (by simp only [dn, hd, and_self, if_true] at h; omega)]
      · simp only [dn, hd, if_false] at h; omega

theorem ev_stop (l : List Int) (e : Int) (h : dn l = 0) : ev l e = e := by
  cases l with
  | nil => rfl
  | cons c r =>
    by_cases hd : 48 ≤ c ∧ c ≤ 57
    · simp only [dn, hd, and_self, if_true] at h; omega
    · simp only [ev, hd, if_false]
theorem ev_big (l : List Int) (e : Int) (h : ¬ e < 1099511627776) : ev l e = e := by
  induction l with
  | nil => rfl
  | cons c r ih => simp only [ev, h, if_false, ih, ite_self]

theorem dn_drop (l : List Int) (m : Nat) (h : m ≤ dn l) : dn (l.drop m) = dn l - m := by
  induction l generalizing m with
  | nil => simp [dn]
  | cons c r ih =>
    match m with
    | 0 => simp
    | m + 1 =>
      by_cases hd : 48 ≤ c ∧ c ≤ 57
      · have e : dn (c :: r) = dn r + 1 := by simp only [dn, hd, and_self, if_true]
        rw [e] at h ⊢
        rw [List.drop_succ_cons, ih m (by omega)]; omega
      · simp only [dn, hd, if_false] at h; omega

/-- m digits are read as one number while there is room. -/
theorem ev_digits (l : List Int) (m : Nat) (e : Int) (h : m ≤ dn l) (he : 0 ≤ e) (hb : (e + 1) * 10 ^ m ≤ 10995116277760) : ev l e = ev (l.drop m) (e * 10 ^ m + pv (l.take m)) := by
  induction l generalizing m e with
  | nil => simp [dn] at h; subst h; simp [pv]
  | cons c r ih =>
    match m with
    | 0 => simp [pv]
    | m + 1 =>
      by_cases hd : 48 ≤ c ∧ c ≤ 57
      · have hm : m ≤ dn r := by simp only [dn, hd, and_self, if_true] at h; omega
        have hP := pow_pos10 m
        rw [Int.pow_succ] at hb
        have h1 : (e + 1) * 10 ^ m * 10 ≤ 10995116277760 := by rw [Int.mul_assoc]; exact hb
        have h2 : e + 1 ≤ (e + 1) * 10 ^ m := by
          have := Int.mul_le_mul_of_nonneg_left (show (1 : Int) ≤ 10 ^ m by omega) (show 0 ≤ e + 1 by omega)
          rw [Int.mul_one] at this; exact this
        have hlt : e < 1099511627776 := by omega
        have e1 : ev (c :: r) e = ev r (e * 10 + (c - 48)) := by simp only [ev, hd, and_self, if_true, hlt]
        have hb2 : (e * 10 + (c - 48) + 1) * 10 ^ m ≤ 10995116277760 := by
          have h3 : (e * 10 + (c - 48) + 1) * 10 ^ m ≤ ((e + 1) * 10) * 10 ^ m := Int.mul_le_mul_of_nonneg_right (by omega) (by omega)
          have h4 : ((e + 1) * 10) * 10 ^ m = (e + 1) * 10 ^ m * 10 := by rw [Int.mul_assoc, Int.mul_assoc, Int.mul_comm 10]
          omega
        rw [e1, ih m _ hm (by omega) hb2, List.drop_succ_cons, List.take_succ_cons, pv_cons c _ hd.1 hd.2, cnt_take r m hm, Int.pow_succ]
        congr 1
        rw [Int.add_mul, Int.mul_assoc, Int.mul_comm 10, Int.add_assoc]
      · simp only [dn, hd, if_false] at h; omega

/-- THE CASE TABLE over the text behind the leading zeros. -/
def tab (l : List Int) : Int :=
  if dn l ≤ 13 then pv (l.take (dn l)) else if pv (l.take 13) < 1099511627776 then pv (l.take 14) else pv (l.take 13)

theorem pow13 : ((0 : Int) + 1) * 10 ^ 13 ≤ 10995116277760 := by decide
theorem ev_tab (l : List Int) (h : zn l = 0) : ev l 0 = tab l := by
  unfold tab
  by_cases h13 : dn l ≤ 13
  · rw [if_pos h13]
    have hb : ((0 : Int) + 1) * 10 ^ dn l ≤ 10995116277760 := by
      have : (10 : Int) ^ dn l ≤ 10 ^ 13 := pow_mono _ _ h13
      have h2 := pow13
      omega
    rw [ev_digits l (dn l) 0 (Nat.le_refl _) (by omega) hb, ev_stop _ _ (by rw [dn_drop _ _ (Nat.le_refl _)]; omega)]
    omega
  · rw [if_neg h13, ev_digits l 13 0 (by omega) (by omega) pow13]
    have e0 : (0 : Int) * 10 ^ 13 + pv (l.take 13) = pv (l.take 13) := by omega
    rw [e0]
    by_cases hlt : pv (l.take 13) < 1099511627776
    · rw [if_pos hlt]
      have hd := dn_drop l 13 (by omega)
      cases hX : l.drop 13 with
      | nil => rw [hX] at hd; simp [dn] at hd; omega
      | cons c r =>
        rw [hX] at hd
        have hc : 48 ≤ c ∧ c ≤ 57 := by
          by_cases h : 48 ≤ c ∧ c ≤ 57
          · exact h
          · simp only [dn, h, if_false] at hd; omega
        have e1 : ev (c :: r) (pv (l.take 13)) = ev r (pv (l.take 13) * 10 + (c - 48)) := by simp only [ev, hc, and_self, if_true, hlt]
        have e2 : l.take 14 = l.take 13 ++ [c] := by
          have : l.take (13 + 1) = l.take 13 ++ (l.drop 13).take 1 := List.take_add
          rw [show (14 : Nat) = 13 + 1 from rfl, this, hX]; rfl
        rw [e1, ← pv_snoc _ c hc.1 hc.2, ← e2]
        refine ev_big _ _ ?_
        cases l with
        | nil => simp at hX
        | cons y t =>
          have hy : 48 ≤ y ∧ y ≤ 57 := by
            by_cases h' : 48 ≤ y ∧ y ≤ 57
            · exact h'
            · simp only [dn, h', if_false] at h13; omega
          have hy48 : y ≠ 48 := by intro e; simp [zn, e] at h
          have ht : dn (y :: t) = dn t + 1 := by simp only [dn, hy, and_self, if_true]
          rw [List.take_succ_cons, pv_cons y _ hy.1 hy.2, cnt_take t 13 (by omega)]
          have h1 : 1 * (10 : Int) ^ 13 ≤ (y - 48) * 10 ^ 13 := Int.mul_le_mul_of_nonneg_right (by omega) (by decide)
          have h2 := (pv_bd (t.take 13)).1
          have h3 : (10 : Int) ^ 13 = 10000000000000 := by decide
          rw [h3] at h1 ⊢
          omega
    · rw [if_neg hlt, ev_big _ _ hlt]

theorem zn_le (l : List Int) : zn l ≤ dn l := by
  induction l with
  | nil => simp [zn]
  | cons c r ih =>
    by_cases h : c = 48
    · subst h; simp [zn, dn]; exact ih
    · simp [zn, h]
theorem zn_drop (l : List Int) : zn (l.drop (zn l)) = 0 := by
  induction l with
  | nil => simp [zn]
  | cons c r ih =>
    by_cases h : c = 48
    · subst h; simpa [zn] using ih
    · simp [zn, h]
theorem ev_zeros (l : List Int) : ev l 0 = ev (l.drop (zn l)) 0 := by
  induction l with
  | nil => simp [zn]
  | cons c r ih =>
    by_cases h : c = 48
    · subst h; simpa [zn, ev] using ih
    · simp [zn, h]
theorem zn_stop (l : List Int) (h : dn l = 0) : zn l = 0 := by have := zn_le l; omega

/-- THE CASE TABLE: d digits, z of them leading zeros. -/
theorem ev_table (l : List Int) : ev l 0 = tab (l.drop (zn l)) := by
  rw [ev_zeros, ev_tab _ (zn_drop l)]

theorem seg_eq (l : List Int) (a b c : Nat) : (l.take (a + b)).drop (a + c) = ((l.drop a).take b).drop c := by
  rw [← List.drop_drop]
  congr 1
  rw [List.drop_take]
  congr 1
  omega

end Go.Proofs.Qxb6606062aMods.Nu
