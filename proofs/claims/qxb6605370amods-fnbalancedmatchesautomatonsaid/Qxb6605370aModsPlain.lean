/-
  THE PLAIN LAWS of seat b6605370aM: no Go in sight. Lists of bytes (as Int), the scan for a closing run, the one-pass automaton.
-/
namespace Go.Proofs.Qxb6605370aMods.Md

/-- How many times c repeats at the head of l. -/
def rl (c : Int) : List Int → Nat
  | [] => 0
  | x :: r => if x = c then rl c r + 1 else 0

theorem rl_le (c : Int) (l : List Int) : rl c l ≤ l.length := by
  induction l with
  | nil => simp [rl]
  | cons x r ih => simp only [rl]; split <;> simp <;> omega

/-- Where the first maximal run of exactly n backticks starts, or -1: 'cur' backticks have been counted up to here, 'pos' is the place here. -/
def scan (n : Int) : List Int → Nat → Nat → Int
  | [], cur, pos => if 0 < cur ∧ (cur : Int) = n then (pos : Int) - cur else -1
  | c :: r, cur, pos => if c = 96 then scan n r (cur + 1) (pos + 1) else if 0 < cur ∧ (cur : Int) = n then (pos : Int) - cur else scan n r 0 (pos + 1)

theorem scan_run (n : Int) (l : List Int) (cur pos : Nat) : scan n l cur pos = if 0 < cur + rl 96 l ∧ ((cur + rl 96 l : Nat) : Int) = n then (pos : Int) - cur else scan n (l.drop (rl 96 l)) 0 (pos + rl 96 l) := by
  induction l generalizing cur pos with
  | nil => simp [rl, scan]
  | cons c r ih =>
    by_cases h : c = 96
    · have e : rl 96 (c :: r) = rl 96 r + 1 := by simp [rl, h]
      rw [e, show scan n (c :: r) cur pos = scan n r (cur + 1) (pos + 1) by simp [scan, h], ih, List.drop_succ_cons,
        show cur + 1 + rl 96 r = cur + (rl 96 r + 1) by omega, show pos + 1 + rl 96 r = pos + (rl 96 r + 1) by omega,
        show ((pos + 1 : Nat) : Int) - ((cur + 1 : Nat) : Int) = (pos : Int) - cur by omega]
    · have e : rl 96 (c :: r) = 0 := by simp [rl, h]
      rw [e]
      simp [scan, h]

theorem scan_nil (n : Int) (pos : Nat) : scan n [] 0 pos = -1 := by simp [scan]
theorem scan_other (n : Int) (c : Int) (r : List Int) (pos : Nat) (h : c ≠ 96) : scan n (c :: r) 0 pos = scan n r 0 (pos + 1) := by simp [scan, h]

theorem scan_bd (n : Int) (l : List Int) (cur pos : Nat) (h : cur ≤ pos) : -1 ≤ scan n l cur pos ∧ scan n l cur pos ≤ pos + l.length := by
  induction l generalizing cur pos with
  | nil => simp only [scan, List.length_nil]; split <;> omega
  | cons c r ih =>
    simp only [scan, List.length_cons]
    split
    · have := ih (cur + 1) (pos + 1) (by omega); omega
    · split
      · omega
      · have := ih 0 (pos + 1) (by omega); omega

/-- One byte on: the answer moves one on, none stays none. -/
theorem scan_shift (n : Int) (l : List Int) (cur pos : Nat) (h : cur ≤ pos) : scan n l cur (pos + 1) = if scan n l cur pos < 0 then -1 else scan n l cur pos + 1 := by
  induction l generalizing cur pos with
  | nil => simp only [scan]; repeat' split <;> omega
  | cons c r ih =>
    simp only [scan]
    by_cases h1 : c = 96
    · simp only [h1, if_true]; exact ih _ _ (by omega)
    · simp only [h1, if_false]
      by_cases h2 : 0 < cur ∧ (cur : Int) = n
      · simp only [h2, and_self, if_true]; split <;> omega
      · rw [if_neg h2, if_neg h2]; exact ih _ _ (by omega)

theorem scan_ticks (n : Int) (k : Nat) (l : List Int) (cur pos : Nat) : scan n (List.replicate k 96 ++ l) cur pos = scan n l (cur + k) (pos + k) := by
  induction k generalizing cur pos with
  | zero => rfl
  | succ k ih => rw [List.replicate_succ, List.cons_append, show scan n (96 :: (List.replicate k 96 ++ l)) cur pos = scan n (List.replicate k 96 ++ l) (cur + 1) (pos + 1) by simp [scan], ih, show cur + 1 + k = cur + (k + 1) by omega, show pos + 1 + k = pos + (k + 1) by omega]

/-- A run of exactly n, then an 'a': found at 0. -/
theorem scan_front (k : Nat) (hk : 0 < k) (l : List Int) : scan (k : Int) (List.replicate k 96 ++ 97 :: l) 0 0 = 0 := by
  rw [scan_ticks]
  simp [scan, hk]

/-- ASCII punctuation. -/
def punct (c : Int) : Bool := decide ((33 ≤ c ∧ c ≤ 47) ∨ (58 ≤ c ∧ c ≤ 64) ∨ (91 ≤ c ∧ c ≤ 96) ∨ (123 ≤ c ∧ c ≤ 126))

/-- What the automaton answers where the text ends. -/
def fin (s st t o n : Nat) : Bool := if 0 < o ∧ n ≠ o then false else if 0 < t then false else decide ((if 2 ≤ st then s + 1 else s) % 2 = 0)

/-- The automaton: s: strong runs so far; st: stars being counted; t: an opening run being counted; o: the open span's run; n: backticks inside. -/
def am : List Int → Nat → Nat → Nat → Nat → Nat → Bool
  | [], s, st, t, o, n => fin s st t o n
  | c :: r, s, st, t, o, n =>
    if 0 < o ∧ c = 96 then am r s st t o (n + 1)
    else if 0 < o ∧ n ≠ o then am r s st t o 0
    else if 0 < t ∧ c = 96 then am r s st (t + 1) 0 (if 0 < o then 0 else n)
    else if 0 < t then am r s st 0 t 0
    else if c = 42 then am r s (st + 1) t 0 (if 0 < o then 0 else n)
    else if c = 96 then am r (if 2 ≤ st then s + 1 else s) 0 1 0 (if 0 < o then 0 else n)
    else match r with
      | d :: r' => if c = 92 ∧ punct d = true then am r' (if 2 ≤ st then s + 1 else s) 0 t 0 (if 0 < o then 0 else n) else am (d :: r') (if 2 ≤ st then s + 1 else s) 0 t 0 (if 0 < o then 0 else n)
      | [] => fin (if 2 ≤ st then s + 1 else s) 0 t 0 (if 0 < o then 0 else n)

/-- The first byte of l, where there is one, is not c. -/
def notHead (c : Int) (l : List Int) : Prop := ∀ x r, l = x :: r → x ≠ c

theorem notHead_drop (c : Int) (l : List Int) : notHead c (l.drop (rl c l)) := by
  induction l with
  | nil => intro x r h; simp [rl] at h
  | cons y r ih =>
    by_cases h : y = c
    · simpa [rl, h] using ih
    · intro x r' e; simp [rl, h] at e; rw [← e.1]; exact h

/-- One step over a byte that is no star, no backtick, no escape. -/
theorem am_other (c : Int) (r : List Int) (s st : Nat) (h1 : c ≠ 42) (h2 : c ≠ 96) (h3 : c = 92 → ∀ d r', r = d :: r' → punct d = false) : am (c :: r) s st 0 0 0 = am r (if 2 ≤ st then s + 1 else s) 0 0 0 0 := by
  cases r with
  | nil => simp [am, h1, h2]
  | cons d r' =>
    have h : ¬ (c = 92 ∧ punct d = true) := fun ⟨a, b⟩ => by rw [h3 a d r' rfl] at b; cases b
    conv => lhs; unfold am
    simp only [h1, h2, h, Nat.lt_irrefl, false_and, and_false, if_false]

theorem am_escape (d : Int) (r : List Int) (s st : Nat) (h : punct d = true) : am (92 :: d :: r) s st 0 0 0 = am r (if 2 ≤ st then s + 1 else s) 0 0 0 0 := by
  conv => lhs; unfold am
  simp [h]

/-- Stars: the run is counted. -/
theorem am_stars (l : List Int) (s st : Nat) : am l s st 0 0 0 = am (l.drop (rl 42 l)) s (st + rl 42 l) 0 0 0 := by
  induction l generalizing st with
  | nil => simp [rl]
  | cons c r ih =>
    by_cases h : c = 42
    · have e : rl 42 (c :: r) = rl 42 r + 1 := by simp [rl, h]
      have e2 : am (c :: r) s st 0 0 0 = am r s (st + 1) 0 0 0 := by rw [h]; conv => lhs; unfold am
                                                                     simp
      rw [e, e2, ih, List.drop_succ_cons, show st + 1 + rl 42 r = st + (rl 42 r + 1) by omega]
    · simp [rl, h]

/-- Behind the stars the count is settled. -/
theorem am_flush (l : List Int) (s st : Nat) (h : notHead 42 l) : am l s st 0 0 0 = am l (if 2 ≤ st then s + 1 else s) 0 0 0 0 := by
  cases l with
  | nil => simp [am, fin]
  | cons c r =>
    have hc : c ≠ 42 := h c r rfl
    by_cases h2 : c = 96
    · conv => lhs; unfold am
      conv => rhs; unfold am
      simp [h2]
    · cases r with
      | nil => simp [am, hc, h2]
      | cons d r' =>
        conv => lhs; unfold am
        conv => rhs; unfold am
        simp [hc, h2]

/-- Backticks that open: the run is counted. -/
theorem am_ticks (l : List Int) (s t : Nat) (ht : 0 < t) : am l s 0 t 0 0 = am (l.drop (rl 96 l)) s 0 (t + rl 96 l) 0 0 := by
  induction l generalizing t with
  | nil => simp [rl]
  | cons c r ih =>
    by_cases h : c = 96
    · have e : rl 96 (c :: r) = rl 96 r + 1 := by simp [rl, h]
      have e2 : am (c :: r) s 0 t 0 0 = am r s 0 (t + 1) 0 0 := by
        rw [h]
        conv => lhs; unfold am
        simp [ht]
      rw [e, e2, ih (t + 1) (by omega), List.drop_succ_cons, show t + 1 + rl 96 r = t + (rl 96 r + 1) by omega]
    · simp [rl, h]

theorem am_tick_first (r : List Int) (s st : Nat) : am (96 :: r) s st 0 0 0 = am r (if 2 ≤ st then s + 1 else s) 0 1 0 0 := by
  conv => lhs; unfold am
  simp

theorem am_tick_run (l : List Int) (s : Nat) (h : 0 < rl 96 l) : am l s 0 0 0 0 = am (l.drop (rl 96 l)) s 0 (rl 96 l) 0 0 := by
  cases l with
  | nil => simp [rl] at h
  | cons c r =>
    have hc : c = 96 := by
      by_cases e : c = 96
      · exact e
      · simp [rl, e] at h
    have e : rl 96 (c :: r) = rl 96 r + 1 := by simp [rl, hc]
    rw [e, hc, am_tick_first, List.drop_succ_cons]
    simp only [show ¬ (2 ≤ 0) by omega, if_false]
    rw [am_ticks _ _ _ (by omega), Nat.add_comm 1]

/-- The span opens at the first byte behind its run. -/
theorem am_open (c : Int) (r : List Int) (s t : Nat) (ht : 0 < t) (h : c ≠ 96) : am (c :: r) s 0 t 0 0 = am r s 0 0 t 0 := by
  conv => lhs; unfold am
  simp [ht, h]

/-- A span that is closed, ahead of a byte that is no backtick, is as if it had never been. -/
theorem am_close (l : List Int) (s n : Nat) (h : notHead 96 l) : am l s 0 0 n n = am l s 0 0 0 0 := by
  cases l with
  | nil => simp [am, fin]
  | cons c r =>
    have hc : c ≠ 96 := h c r rfl
    have e : (if 0 < n then 0 else n) = 0 := by split <;> omega
    conv => lhs; unfold am
    conv => rhs; unfold am
    simp [hc, e]

/-- Inside an open span the automaton looks for what 'scan' looks for. -/
theorem am_span (l : List Int) (s n cur pos : Nat) (hn : 0 < n) (hp : cur ≤ pos) :
    (scan (n : Int) l cur pos < 0 → am l s 0 0 n cur = false) ∧
    (0 ≤ scan (n : Int) l cur pos → (pos : Int) ≤ scan (n : Int) l cur pos + n ∧ am l s 0 0 n cur = am (l.drop ((scan (n : Int) l cur pos + n - pos).toNat)) s 0 0 0 0) := by
  induction l generalizing cur pos with
  | nil =>
    simp only [scan]
    by_cases h : cur = n
    · subst h
      have hx : 0 < cur ∧ (cur : Int) = (cur : Int) := ⟨hn, rfl⟩
      rw [if_pos hx]
      refine ⟨fun h => by omega, fun _ => ⟨by omega, ?_⟩⟩
      simp [am, fin]
    · have hx : ¬ (0 < cur ∧ (cur : Int) = (n : Int)) := by omega
      rw [if_neg hx]
      refine ⟨fun _ => by simp [am, fin, hn, h], fun h => by omega⟩
  | cons c r ih =>
    by_cases hc : c = 96
    · have e1 : scan (n : Int) (c :: r) cur pos = scan (n : Int) r (cur + 1) (pos + 1) := by simp [scan, hc]
      have e2 : am (c :: r) s 0 0 n cur = am r s 0 0 n (cur + 1) := by
        rw [hc]
        conv => lhs; unfold am
        simp [hn]
      obtain ⟨i1, i2⟩ := ih (cur + 1) (pos + 1) (by omega)
      rw [e1, e2]
      refine ⟨i1, fun h => ?_⟩
      obtain ⟨j1, j2⟩ := i2 h
      refine ⟨by omega, ?_⟩
      rw [j2, show (scan (n : Int) r (cur + 1) (pos + 1) + n - (pos : Int)).toNat = (scan (n : Int) r (cur + 1) (pos + 1) + n - ((pos + 1 : Nat) : Int)).toNat + 1 by omega, List.drop_succ_cons]
    · by_cases h : cur = n
      · subst h
        have e1 : scan (cur : Int) (c :: r) cur pos = (pos : Int) - cur := by simp [scan, hc, hn]
        rw [e1]
        refine ⟨fun h => by omega, fun _ => ⟨by omega, ?_⟩⟩
        rw [show ((pos : Int) - cur + cur - pos).toNat = 0 by omega, List.drop_zero]
        exact am_close _ _ _ (fun x r' e => by simp at e; rw [← e.1]; exact hc)
      · have e1 : scan (n : Int) (c :: r) cur pos = scan (n : Int) r 0 (pos + 1) := by
          have hx : ¬ (0 < cur ∧ (cur : Int) = (n : Int)) := by omega
          simp only [scan, hc, if_false, hx]
        have e2 : am (c :: r) s 0 0 n cur = am r s 0 0 n 0 := by
          conv => lhs; unfold am
          simp [hc, hn, h]
        obtain ⟨i1, i2⟩ := ih 0 (pos + 1) (by omega)
        rw [e1, e2]
        refine ⟨i1, fun h => ?_⟩
        obtain ⟨j1, j2⟩ := i2 h
        refine ⟨by omega, ?_⟩
        rw [j2, show (scan (n : Int) r 0 (pos + 1) + n - (pos : Int)).toNat = (scan (n : Int) r 0 (pos + 1) + n - ((pos + 1 : Nat) : Int)).toNat + 1 by omega, List.drop_succ_cons]

/-- A whole code span: its opening run of n, the scan for its end behind it. -/
theorem am_code (l : List Int) (s : Nat) (h : 0 < rl 96 l) :
    (scan (rl 96 l : Int) (l.drop (rl 96 l)) 0 0 < 0 → am l s 0 0 0 0 = false) ∧
    (0 ≤ scan (rl 96 l : Int) (l.drop (rl 96 l)) 0 0 → am l s 0 0 0 0 = am (l.drop (rl 96 l + ((scan (rl 96 l : Int) (l.drop (rl 96 l)) 0 0).toNat + rl 96 l))) s 0 0 0 0) := by
  rw [am_tick_run l s h, ← List.drop_drop]
  have hh := notHead_drop 96 l
  generalize l.drop (rl 96 l) = m at hh
  generalize rl 96 l = n at h
  cases m with
  | nil => exact ⟨fun _ => by simp [am, fin, h], fun x => by simp [scan] at x⟩
  | cons c r =>
    have hc : c ≠ 96 := hh c r rfl
    rw [am_open c r s n h hc, scan_other _ _ _ _ hc]
    obtain ⟨i1, i2⟩ := am_span r s n 0 1 h (by omega)
    refine ⟨i1, fun x => ?_⟩
    obtain ⟨j1, j2⟩ := i2 x
    have j0 : (0 : Int) ≤ scan (n : Int) r 0 1 := x
    rw [j2, show (scan (n : Int) r 0 (0 + 1)).toNat + n = (scan (n : Int) r 0 1 + n - ((1 : Nat) : Int)).toNat + 1 by simp only [Nat.zero_add]; omega, List.drop_succ_cons]

/-- A whole run of stars. -/
theorem am_strong (l : List Int) (s : Nat) : am l s 0 0 0 0 = am (l.drop (rl 42 l)) (if 2 ≤ rl 42 l then s + 1 else s) 0 0 0 0 := by
  rw [am_stars, Nat.zero_add, am_flush _ _ _ (notHead_drop 42 l)]

/-- A whole run of another byte. -/
theorem am_run (c : Int) (l : List Int) (s : Nat) (h1 : c ≠ 42) (h2 : c ≠ 96) (h3 : c ≠ 92) : am l s 0 0 0 0 = am (l.drop (rl c l)) s 0 0 0 0 := by
  induction l with
  | nil => simp [rl]
  | cons x r ih =>
    by_cases h : x = c
    · have e : rl c (x :: r) = rl c r + 1 := by simp [rl, h]
      rw [e, List.drop_succ_cons, ← ih, h, am_other c r s 0 h1 h2 (fun e => absurd e h3)]
      simp
    · simp [rl, h]

/-- The longest run of backticks. -/
def lt : List Int → Nat → Nat → Nat
  | [], _, best => best
  | c :: r, cur, best => if c = 96 then lt r (cur + 1) (if best < cur + 1 then cur + 1 else best) else lt r 0 best

theorem lt_ge (l : List Int) (cur best : Nat) : best ≤ lt l cur best := by
  induction l generalizing cur best with
  | nil => simp [lt]
  | cons c r ih =>
    simp only [lt]
    split
    · by_cases h : best < cur + 1
      · rw [if_pos h]; have := ih (cur + 1) (cur + 1); omega
      · rw [if_neg h]; exact ih (cur + 1) best
    · exact ih 0 best

theorem lt_le (l : List Int) (cur best : Nat) : lt l cur best ≤ (if best < cur then cur else best) + l.length := by
  induction l generalizing cur best with
  | nil => simp only [lt, List.length_nil]; split <;> omega
  | cons c r ih =>
    simp only [lt, List.length_cons]
    by_cases h : c = 96
    · rw [if_pos h]
      by_cases h2 : best < cur + 1
      · rw [if_pos h2]; have := ih (cur + 1) (cur + 1); split at this <;> split <;> omega
      · rw [if_neg h2]; have := ih (cur + 1) best; split at this <;> split <;> omega
    · rw [if_neg h]
      have := ih 0 best
      split at this <;> split <;> omega

/-- Inside a span of k, text whose runs are all shorter leaves it open. -/
theorem am_inside (l rest : List Int) (s k cur best : Nat) (hc : cur ≤ best) (hk : lt l cur best < k) : ∃ cur', cur' < k ∧ am (l ++ rest) s 0 0 k cur = am rest s 0 0 k cur' := by
  induction l generalizing cur best with
  | nil => exact ⟨cur, by simp [lt] at hk; omega, rfl⟩
  | cons c r ih =>
    have hb := lt_ge (c :: r) cur best
    by_cases h : c = 96
    · have e : lt (c :: r) cur best = lt r (cur + 1) (if best < cur + 1 then cur + 1 else best) := by simp [lt, h]
      rw [e] at hk
      obtain ⟨x, hx, hy⟩ := ih (cur + 1) _ (by split <;> omega) hk
      refine ⟨x, hx, ?_⟩
      rw [← hy, h, List.cons_append]
      conv => lhs; unfold am
      have : 0 < k := by omega
      simp [this]
    · have e : lt (c :: r) cur best = lt r 0 best := by simp [lt, h]
      rw [e] at hk
      obtain ⟨x, hx, hy⟩ := ih 0 best (by omega) hk
      refine ⟨x, hx, ?_⟩
      rw [← hy, List.cons_append]
      conv => lhs; unfold am
      have h0 : 0 < k := by omega
      have h1 : cur ≠ k := by omega
      simp [h, h0, h1]

theorem am_inner (k s o n : Nat) (l : List Int) (ho : 0 < o) : am (List.replicate k 96 ++ l) s 0 0 o n = am l s 0 0 o (n + k) := by
  induction k generalizing n with
  | zero => rfl
  | succ k ih =>
    rw [List.replicate_succ, List.cons_append]
    conv => lhs; unfold am
    simp only [ho, and_self, if_true, ih]
    rw [show n + 1 + k = n + (k + 1) by omega]

theorem rl_replicate (c : Int) (k : Nat) (l : List Int) (h : notHead c l) : rl c (List.replicate k c ++ l) = k := by
  induction k with
  | zero =>
    cases l with
    | nil => rfl
    | cons x r => simp [rl, h x r rfl]
  | succ k ih => simp [List.replicate_succ, rl, ih]

/-- The fenced text: fence, space, src, space, fence. -/
def fenced (src : List Int) : List Int := List.replicate (lt src 0 0 + 1) 96 ++ (32 :: (src ++ (32 :: List.replicate (lt src 0 0 + 1) 96)))

theorem am_fenced (src : List Int) (s : Nat) : am (fenced src) s 0 0 0 0 = decide (s % 2 = 0) := by
  unfold fenced
  have hk : lt src 0 0 < lt src 0 0 + 1 := by omega
  generalize hK : lt src 0 0 + 1 = k at *
  have hr : rl 96 (List.replicate k 96 ++ (32 :: (src ++ (32 :: List.replicate k 96)))) = k := rl_replicate 96 k _ (fun x r e => by simp at e; omega)
  have h0 : 0 < k := by omega
  rw [am_tick_run _ _ (by rw [hr]; exact h0), hr]
  rw [List.drop_left' (by simp), am_open 32 _ _ _ h0 (by decide)]
  obtain ⟨x, hx, hy⟩ := am_inside src (32 :: List.replicate k 96) s k 0 0 (Nat.le_refl _) hk
  rw [hy]
  have e : am (32 :: List.replicate k 96) s 0 0 k x = am (List.replicate k 96) s 0 0 k 0 := by
    conv => lhs; unfold am
    have : x ≠ k := by omega
    simp [h0, this]
  rw [e]
  have := am_inner k s k 0 [] h0
  rw [List.append_nil] at this
  rw [this]
  simp [am, fin]

theorem am_starred (src : List Int) : am (42 :: 42 :: 97 :: fenced src) 0 0 0 0 0 = false := by
  rw [am_strong]
  have e : rl 42 (42 :: 42 :: 97 :: fenced src) = 2 := by simp [rl]
  rw [e]
  simp only [List.drop_succ_cons, List.drop_zero]
  rw [am_other 97 _ _ _ (by decide) (by decide) (fun h => by cases h), am_fenced]
  rfl

end Go.Proofs.Qxb6605370aMods.Md
