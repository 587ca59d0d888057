/-
  THE PLAIN LAWS of seat b6606062aM, the number: readNumber's loop and the model's loop, each as steps over the mantissa's bytes; what ties the two. No Go in sight.
-/
import Derived.Test.Qxb6606062aModsTable
namespace Go.Proofs.Qxb6606062aMods.Nu

/-- How many digits and points l begins with. -/
def mn : List Int → Nat
  | [] => 0
  | c :: r => if c = 46 ∨ (48 ≤ c ∧ c ≤ 57) then mn r + 1 else 0

/-- readNumber's state: read, zeros, point, fits, n.digits, n.exponent. -/
structure RS where
  rd : Nat
  zs : Nat
  pt : Bool
  ft : Bool
  dg : Int
  ex : Int

def lower (s : RS) : Int := if s.pt = true then s.ex - 1 else s.ex

/-- One byte of the mantissa. -/
def stp (s : RS) (c : Int) : RS :=
  if c = 46 then ⟨s.rd, s.zs, true, s.ft, s.dg, s.ex⟩
  else if c = 48 then (if s.rd = 0 then ⟨s.rd, s.zs, s.pt, s.ft, s.dg, lower s⟩ else ⟨s.rd, s.zs + 1, s.pt, s.ft, s.dg, lower s⟩)
  else if 19 ≤ s.rd + s.zs then ⟨s.rd, s.zs, s.pt, false, s.dg, lower s⟩
  else ⟨s.rd + s.zs + 1, 0, s.pt, s.ft, s.dg * 10 ^ s.zs * 10 + (c - 48), lower s⟩

def rs0 : RS := ⟨0, 0, false, true, 0, 0⟩
def run (S : List Int) : RS := S.foldl stp rs0
theorem run_snoc (S : List Int) (c : Int) : run (S ++ [c]) = stp (run S) c := by simp [run]

/-- The model's state: digits behind the point, a point seen, the first and the last nonzero digit's place. -/
structure MS where
  ap : Nat
  pt : Bool
  fi : Int
  la : Int

def more (m : MS) : Nat := if m.pt = true then m.ap + 1 else m.ap

def mstp (j : Nat) (m : MS) (c : Int) : MS :=
  if c = 46 then ⟨m.ap, true, m.fi, m.la⟩
  else if c = 48 then ⟨more m, m.pt, m.fi, m.la⟩
  else ⟨more m, m.pt, if m.fi < 0 then (j : Int) else m.fi, j⟩

def ms0 : MS := ⟨0, false, -1, -1⟩
def mgo (S : List Int) (j : Nat) (m : MS) : MS :=
  match S with
  | [] => m
  | c :: r => mgo r (j + 1) (mstp j m c)
def mrun (st : Nat) (S : List Int) : MS := mgo S st ms0
theorem mgo_snoc (S : List Int) (c : Int) (j : Nat) (m : MS) : mgo (S ++ [c]) j m = mstp (j + S.length) (mgo S j m) c := by
  induction S generalizing j m with
  | nil => rfl
  | cons x r ih => rw [List.cons_append]; simp only [mgo]; rw [ih, List.length_cons, show j + 1 + r.length = j + (r.length + 1) by omega]
theorem mrun_snoc (st : Nat) (S : List Int) (c : Int) : mrun st (S ++ [c]) = mstp (st + S.length) (mrun st S) c := mgo_snoc S c st ms0

/-- A byte of a mantissa. -/
def okc (c : Int) : Prop := c = 46 ∨ (48 ≤ c ∧ c ≤ 57)

theorem cnt_append (x y : List Int) : cnt (x ++ y) = cnt x + cnt y := by
  induction x with
  | nil => simp [cnt]
  | cons c r ih => simp only [List.cons_append, cnt, ih]; split <;> omega
theorem pv_append (x y : List Int) : pv (x ++ y) = pv x * 10 ^ cnt y + pv y := by
  induction x with
  | nil => simp [pv]
  | cons c r ih =>
    simp only [List.cons_append, pv, ih, cnt_append]
    split
    · rw [Int.pow_add, Int.add_mul, Int.mul_assoc]; omega
    · rfl
theorem pv_point (x : List Int) : pv (x ++ [46]) = pv x := by rw [pv_append]; simp [pv, cnt]
theorem cnt_point (x : List Int) : cnt (x ++ [46]) = cnt x := by rw [cnt_append]; simp [cnt]
theorem cnt_pos (x : List Int) (h : 0 < pv x) : 0 < cnt x := by
  have := pv_bd x
  rcases Nat.eq_zero_or_pos (cnt x) with e | e
  · rw [e] at this; simp at this; omega
  · exact e

/-- THE BOUNDS that readNumber's loop keeps. -/
def Bd (k : Nat) (s : RS) : Prop := s.rd + s.zs ≤ k ∧ -(k : Int) ≤ s.ex ∧ s.ex ≤ 0 ∧ 0 ≤ s.dg ∧ s.dg < 10 ^ s.rd ∧ s.rd ≤ 19

theorem bd0 (k : Nat) : Bd k rs0 := by
  refine ⟨by simp [rs0], by simp [rs0], by simp [rs0], by simp [rs0], by simp [rs0], by simp [rs0]⟩

theorem grow_bd (d : Int) (r z : Nat) (h0 : 0 ≤ d) (h1 : d < 10 ^ r) : 0 ≤ d * 10 ^ z ∧ d * 10 ^ z + 1 ≤ 10 ^ (r + z) := by
  have hz := pow_pos10 z
  refine ⟨Int.mul_nonneg h0 (by omega), ?_⟩
  have h2 : (d + 1) * 10 ^ z ≤ 10 ^ r * 10 ^ z := Int.mul_le_mul_of_nonneg_right (by omega) (by omega)
  rw [← Int.pow_add, Int.add_mul, Int.one_mul] at h2
  omega

theorem bd_step (k : Nat) (s : RS) (c : Int) (hc : okc c) (h : Bd k s) : Bd (k + 1) (stp s c) := by
  obtain ⟨h1, h2, h3, h4, h5, h6⟩ := h
  have hlow : -((k + 1 : Nat) : Int) ≤ lower s ∧ lower s ≤ 0 := by unfold lower; split <;> omega
  unfold stp
  by_cases c46 : c = 46
  · rw [if_pos c46]; exact ⟨by show s.rd + s.zs ≤ k + 1; omega, by show -((k + 1 : Nat) : Int) ≤ s.ex; omega, h3, h4, h5, h6⟩
  · rw [if_neg c46]
    by_cases c48 : c = 48
    · rw [if_pos c48]
      by_cases hr : s.rd = 0
      · rw [if_pos hr]; exact ⟨by show s.rd + s.zs ≤ k + 1; omega, hlow.1, hlow.2, h4, h5, h6⟩
      · rw [if_neg hr]; exact ⟨by show s.rd + (s.zs + 1) ≤ k + 1; omega, hlow.1, hlow.2, h4, h5, h6⟩
    · rw [if_neg c48]
      by_cases h19 : 19 ≤ s.rd + s.zs
      · rw [if_pos h19]; exact ⟨by show s.rd + s.zs ≤ k + 1; omega, hlow.1, hlow.2, h4, h5, h6⟩
      · rw [if_neg h19]
        have hd : 48 ≤ c ∧ c ≤ 57 := by rcases hc with h | h; exact absurd h c46; exact h
        have hg := grow_bd s.dg s.rd s.zs h4 h5
        refine ⟨by show s.rd + s.zs + 1 + 0 ≤ k + 1; omega, hlow.1, hlow.2, by show 0 ≤ s.dg * 10 ^ s.zs * 10 + (c - 48); omega, ?_, by show s.rd + s.zs + 1 ≤ 19; omega⟩
        show s.dg * 10 ^ s.zs * 10 + (c - 48) < 10 ^ (s.rd + s.zs + 1)
        rw [Int.pow_succ]
        omega

/-- WHAT TIES THE TWO: S is A, then C from the first to the last nonzero digit, then B. -/
def J (st : Nat) (S : List Int) (s : RS) (m : MS) : Prop :=
  s.pt = m.pt ∧ s.ex = -(m.ap : Int) ∧
  ((m.fi = -1 ∧ s.rd = 0 ∧ s.zs = 0 ∧ s.dg = 0 ∧ s.ft = true) ∨
   ∃ A C B : List Int, S = A ++ C ++ B ∧ m.fi = ((st + A.length : Nat) : Int) ∧ m.la + 1 = ((st + A.length + C.length : Nat) : Int) ∧ pv B = 0 ∧ 0 < pv C ∧
     (cnt C ≤ 19 → s.ft = true ∧ s.rd = cnt C ∧ s.zs = cnt B ∧ s.dg = pv C) ∧ (19 < cnt C → s.ft = false ∧ 19 ≤ s.rd + s.zs))

theorem low_more (s : RS) (m : MS) (h1 : s.pt = m.pt) (h2 : s.ex = -(m.ap : Int)) : lower s = -((more m : Nat) : Int) := by
  unfold lower more
  rw [h1]
  split <;> omega

theorem J_step (st : Nat) (S : List Int) (s : RS) (m : MS) (c : Int) (hc : okc c) (h : J st S s m) : J st (S ++ [c]) (stp s c) (mstp (st + S.length) m c) := by
  obtain ⟨h1, h2, h3⟩ := h
  have hlm := low_more s m h1 h2
  unfold stp mstp
  by_cases c46 : c = 46
  · rw [if_pos c46, if_pos c46]
    refine ⟨rfl, h2, ?_⟩
    rcases h3 with h3 | ⟨A, C, B, e, f1, f2, f3, f4, f5, f6⟩
    · exact .inl h3
    · refine .inr ⟨A, C, B ++ [46], by rw [e, c46, List.append_assoc], f1, f2, by rw [pv_point]; exact f3, f4, ?_, f6⟩
      rw [cnt_point]; exact f5
  · rw [if_neg c46, if_neg c46]
    have hd : 48 ≤ c ∧ c ≤ 57 := by rcases hc with h | h; exact absurd h c46; exact h
    by_cases c48 : c = 48
    · rw [if_pos c48, if_pos c48]
      rcases h3 with ⟨g1, g2, g3, g4, g5⟩ | ⟨A, C, B, e, f1, f2, f3, f4, f5, f6⟩
      · rw [if_pos g2]
        exact ⟨h1, hlm, .inl ⟨g1, g2, g3, g4, g5⟩⟩
      · have hpB : pv (B ++ [48]) = 0 := by rw [pv_snoc B 48 (by decide) (by decide), f3]; rfl
        have hcB : cnt (B ++ [48]) = cnt B + 1 := cnt_snoc B 48 (by decide) (by decide)
        have e' : S ++ [c] = A ++ C ++ (B ++ [48]) := by rw [e, c48, List.append_assoc]
        by_cases hr : s.rd = 0
        · rw [if_pos hr]
          refine ⟨h1, hlm, .inr ⟨A, C, B ++ [48], e', f1, f2, hpB, f4, ?_, f6⟩⟩
          intro h
          have := (f5 h).2.1
          have := cnt_pos C f4
          omega
        · rw [if_neg hr]
          refine ⟨h1, hlm, .inr ⟨A, C, B ++ [48], e', f1, f2, hpB, f4, ?_, ?_⟩⟩
          · intro h
            obtain ⟨a1, a2, a3, a4⟩ := f5 h
            exact ⟨a1, a2, by show s.zs + 1 = cnt (B ++ [48]); omega, a4⟩
          · intro h
            obtain ⟨a1, a2⟩ := f6 h
            exact ⟨a1, by show 19 ≤ s.rd + (s.zs + 1); omega⟩
    · rw [if_neg c48, if_neg c48]
      have hc1 : cnt [c] = 1 := by simp [cnt, hd]
      have hp1 : pv [c] = c - 48 := by simp [pv, cnt, hd]
      rcases h3 with ⟨g1, g2, g3, g4, g5⟩ | ⟨A, C, B, e, f1, f2, f3, f4, f5, f6⟩
      · rw [if_neg (show ¬ 19 ≤ s.rd + s.zs by omega), if_pos (show m.fi < 0 by omega)]
        refine ⟨h1, hlm, .inr ⟨S, [c], [], by simp, rfl, ?_, rfl, by rw [hp1]; omega, ?_, ?_⟩⟩
        · show ((st + S.length : Nat) : Int) + 1 = _
          rw [List.length_singleton]; omega
        · intro _
          refine ⟨g5, by show s.rd + s.zs + 1 = cnt [c]; omega, rfl, ?_⟩
          show s.dg * 10 ^ s.zs * 10 + (c - 48) = pv [c]
          rw [g4, hp1]; omega
        · intro h; omega
      · rw [if_neg (show ¬ m.fi < 0 by omega)]
        have e' : S ++ [c] = A ++ (C ++ B ++ [c]) ++ [] := by rw [e, List.append_nil, List.append_assoc, List.append_assoc, List.append_assoc]
        have hcC : cnt (C ++ B ++ [c]) = cnt C + cnt B + 1 := by rw [cnt_append, cnt_append, hc1]
        have hpC : pv (C ++ B ++ [c]) = pv C * 10 ^ cnt B * 10 + (c - 48) := by rw [pv_snoc _ c hd.1 hd.2, pv_append, f3]; omega
        have hpos : 0 < pv (C ++ B ++ [c]) := by
          have h4 : 1 * (10 : Int) ^ cnt B ≤ pv C * 10 ^ cnt B := Int.mul_le_mul_of_nonneg_right (by omega) (Int.le_of_lt (pow_pos10 _))
          have := pow_pos10 (cnt B)
          omega
        have hla : ((st + S.length : Nat) : Int) + 1 = ((st + A.length + (C ++ B ++ [c]).length : Nat) : Int) := by rw [e]; simp only [List.length_append, List.length_singleton]; omega
        by_cases hC : cnt C ≤ 19
        · obtain ⟨a1, a2, a3, a4⟩ := f5 hC
          by_cases h19 : 19 ≤ s.rd + s.zs
          · rw [if_pos h19]
            exact ⟨h1, hlm, .inr ⟨A, C ++ B ++ [c], [], e', f1, hla, rfl, hpos, fun h => by omega, fun _ => ⟨rfl, h19⟩⟩⟩
          · rw [if_neg h19]
            refine ⟨h1, hlm, .inr ⟨A, C ++ B ++ [c], [], e', f1, hla, rfl, hpos, fun _ => ⟨a1, ?_, rfl, ?_⟩, fun h => by omega⟩⟩
            · show s.rd + s.zs + 1 = _
              omega
            · show s.dg * 10 ^ s.zs * 10 + (c - 48) = _
              rw [hpC, a4, a3]
        · obtain ⟨a1, a2⟩ := f6 (by omega)
          rw [if_pos a2]
          exact ⟨h1, hlm, .inr ⟨A, C ++ B ++ [c], [], e', f1, hla, rfl, hpos, fun h => by omega, fun _ => ⟨rfl, a2⟩⟩⟩

theorem J_go (st : Nat) (S S0 : List Int) (s : RS) (m : MS) (hS : ∀ c ∈ S, okc c) (h : J st S0 s m) : J st (S0 ++ S) (S.foldl stp s) (mgo S (st + S0.length) m) := by
  induction S generalizing S0 s m with
  | nil => simpa [mgo] using h
  | cons c r ih =>
    have h1 := J_step st S0 s m c (hS c (by simp)) h
    have h2 := ih (S0 ++ [c]) _ _ (fun x hx => hS x (by simp [hx])) h1
    simp only [List.append_assoc, List.singleton_append, List.length_append, List.length_singleton] at h2
    simp only [List.foldl_cons, mgo]
    rw [show st + S0.length + 1 = st + (S0.length + 1) by omega]
    exact h2

theorem J_run (st : Nat) (S : List Int) (hS : ∀ c ∈ S, okc c) : J st S (run S) (mrun st S) := by
  have h0 : J st [] rs0 ms0 := ⟨rfl, rfl, .inl ⟨rfl, rfl, rfl, rfl, rfl⟩⟩
  have := J_go st S [] rs0 ms0 hS h0
  simp only [List.nil_append, List.length_nil, Nat.add_zero] at this
  exact this

theorem mn_le (l : List Int) : mn l ≤ l.length := by
  induction l with
  | nil => simp [mn]
  | cons c r ih => simp only [mn]; split <;> simp <;> omega
theorem mn_ok (l : List Int) : ∀ c ∈ l.take (mn l), okc c := by
  induction l with
  | nil => simp
  | cons c r ih =>
    by_cases h : c = 46 ∨ (48 ≤ c ∧ c ≤ 57)
    · have e : mn (c :: r) = mn r + 1 := by simp only [mn, h, if_true]
      rw [e, List.take_succ_cons]
      intro x hx
      rcases List.mem_cons.1 hx with rfl | hx
      · exact h
      · exact ih x hx
    · have e : mn (c :: r) = 0 := by simp only [mn, h, if_false]
      rw [e]; simp

end Go.Proofs.Qxb6606062aMods.Nu
