/-
  WALKS of seat b6605370aM: isPunct, balanced.
-/
import Derived.Test.Qxb6605370aModsShift
namespace Go.Proofs.Qxb6605370aMods
open Go.RowKit

theorem ret_bool {a b : Bool} (h : a = b) : Ending.returned (.bool a) = .returned (.bool b) := by rw [h]

set_option maxHeartbeats 800000 in
theorem isPunct_any (c : Int) (w : World) : Calls Trym.prog 21 #[.int .u8 c] w fun e w' => e = .returned (.bool (Md.punct c)) ∧ w' = w := by
  have cases9 : c < 33 ∨ (33 ≤ c ∧ c ≤ 47) ∨ (47 < c ∧ c < 58) ∨ (58 ≤ c ∧ c ≤ 64) ∨ (64 < c ∧ c < 91) ∨ (91 ≤ c ∧ c ≤ 96) ∨ (96 < c ∧ c < 123) ∨ (123 ≤ c ∧ c ≤ 126) ∨ 126 < c := by omega
  have hp : Hid (Md.punct c = decide ((33 ≤ c ∧ c ≤ 47) ∨ (58 ≤ c ∧ c ≤ 64) ∨ (91 ≤ c ∧ c ≤ 96) ∨ (123 ≤ c ∧ c ≤ 126))) := rfl
  rcases cases9 with h | ⟨h, h'⟩ | ⟨h, h'⟩ | ⟨h, h'⟩ | ⟨h, h'⟩ | ⟨h, h'⟩ | ⟨h, h'⟩ | ⟨h, h'⟩ | h
  all_goals
    go_enter Trym.func21, Trym.ntmps21
    go_wp2
    go_ret
    refine ⟨ret_bool ?_, rfl⟩
    rw [hp.out]
    first
      | exact (decide_eq_true (by omega)).symm
      | exact (decide_eq_false (by omega)).symm
      | (apply Bool.eq_iff_iff.2; simp; omega)

/-! ### THE STEPS OF balanced, at a place k of the text -/
theorem scan_fits (n : Int) (l : List Int) (cur pos : Nat) (h : cur ≤ pos) : 0 ≤ Md.scan n l cur pos → Md.scan n l cur pos + n ≤ pos + l.length := by
  induction l generalizing cur pos with
  | nil =>
    simp only [Md.scan, List.length_nil]
    split <;> omega
  | cons c r ih =>
    simp only [Md.scan, List.length_cons]
    split
    · intro h2; have := ih (cur + 1) (pos + 1) (by omega) h2; omega
    · split
      · omega
      · intro h2; have := ih 0 (pos + 1) (by omega) h2; omega

theorem bal_escape (l : List Int) (k s : Nat) (h : k + 1 < l.length) (e : l.getD k 0 = 92) (p : Md.punct (l.getD (k + 1) 0) = true) : Md.am (l.drop k) s 0 0 0 0 = Md.am (l.drop (k + 2)) s 0 0 0 0 := by
  rw [drop_cons l k (by omega), drop_cons l (k + 1) h, e, Md.am_escape _ _ _ _ p]
  rfl

theorem bal_slash (l : List Int) (k s m : Nat) (h : k < l.length) (e : l.getD k 0 = 92) (p : k + 1 < l.length → Md.punct (l.getD (k + 1) 0) = false) (hm : m = Md.rl 92 (l.drop k)) : Md.am (l.drop k) s 0 0 0 0 = Md.am (l.drop (k + m)) s 0 0 0 0 := by
  have h1 : Md.rl 92 (l.drop (k + 1)) = 0 := by
    by_cases h2 : k + 1 < l.length
    · refine rl_step_no l 92 (k + 1) h2 (fun e2 => ?_)
      have := p h2
      rw [e2] at this
      cases this
    · rw [List.drop_of_length_le (by omega)]; rfl
  rw [rl_step_yes l 92 k h e, h1] at hm
  subst hm
  rw [drop_cons l k h, Md.am_other _ _ _ _ (by rw [e]; decide) (by rw [e]; decide)]
  · rfl
  · intro _ d r' hd
    by_cases h2 : k + 1 < l.length
    · rw [drop_cons l (k + 1) h2] at hd
      rw [← (List.cons.inj hd).1]; exact p h2
    · rw [List.drop_of_length_le (by omega)] at hd; cases hd

theorem bal_none (l : List Int) (k s m : Nat) (r : Int) (hm : m = Md.rl 96 (l.drop k)) (h0 : 0 < m) (hr : Md.scan (m : Int) (l.drop (k + m)) 0 0 = r) (h : r < 0) : Md.am (l.drop k) s 0 0 0 0 = false := by
  have := (Md.am_code (l.drop k) s (by omega)).1
  rw [← hm, List.drop_drop, hr] at this
  exact this h

theorem bal_code (l : List Int) (k s m q : Nat) (r : Int) (hm : m = Md.rl 96 (l.drop k)) (h0 : 0 < m) (hr : Md.scan (m : Int) (l.drop (k + m)) 0 0 = r) (hq : r = (q : Int)) : Md.am (l.drop k) s 0 0 0 0 = Md.am (l.drop (k + (m + (q + m)))) s 0 0 0 0 := by
  have := (Md.am_code (l.drop k) s (by omega)).2
  rw [← hm, List.drop_drop, hr, hq, List.drop_drop] at this
  exact this (by omega)

theorem bal_fits (l : List Int) (k m q : Nat) (r : Int) (hk : k + m ≤ l.length) (hr : Md.scan (m : Int) (l.drop (k + m)) 0 0 = r) (hq : r = (q : Int)) : k + (m + (q + m)) ≤ l.length := by
  have := scan_fits (m : Int) (l.drop (k + m)) 0 0 (Nat.le_refl _)
  rw [hr, hq, List.length_drop] at this
  have := this (by omega)
  omega

theorem bal_stars (l : List Int) (k s m : Nat) (hm : m = Md.rl 42 (l.drop k)) : Md.am (l.drop k) s 0 0 0 0 = Md.am (l.drop (k + m)) (if 2 ≤ m then s + 1 else s) 0 0 0 0 := by
  rw [Md.am_strong, ← hm, List.drop_drop]

theorem bal_other (l : List Int) (k s m : Nat) (x : Int) (hm : m = Md.rl x (l.drop k)) (h1 : x ≠ 42) (h2 : x ≠ 96) (h3 : x ≠ 92) : Md.am (l.drop k) s 0 0 0 0 = Md.am (l.drop (k + m)) s 0 0 0 0 := by
  rw [Md.am_run x _ _ h1 h2 h3, ← hm, List.drop_drop]

theorem even_nat (s : Nat) : (((s : Int) % 2 == 0) : Bool) = decide (s % 2 = 0) := by
  by_cases h : s % 2 = 0
  · rw [decide_eq_true h]; simp; omega
  · rw [decide_eq_false h]; simp; omega

theorem runLength_is (a : Option Addr) (n cap m : Nat) (l : List Int) (c : Int) (w : World) (hm : m = Md.rl c l) (hn : n = l.length) (hB : Bs w a l) (hl : l.length ≤ 4194304) :
    Calls Trym.prog 20 #[.slice a n cap, .int .u8 c] w fun e w' => e = .returned (.int .i64 m) ∧ w = w' := by
  refine (runLength_at a n cap l c w hn hB hl).mono ?_
  rintro e w' ⟨m', h1, h2, h3⟩
  rw [hm, ← h1]
  exact ⟨h2, h3.symm⟩
theorem closingRun_keep (a : Option Addr) (m cap : Nat) (l : List Int) (n r : Int) (w : World) (hr : Md.scan n l 0 0 = r) (hn : m = l.length) (hB : Bs w a l) (hl : l.length ≤ 4194304) (hcap : m ≤ cap) :
    Calls Trym.prog 19 #[.slice a m cap, .int .i64 n] w fun e w' => e = .returned (.int .i64 r) ∧ w = w' :=
  (closingRun_is a m cap l n r w hr hn hB hl hcap).mono fun _ _ ⟨h1, h2⟩ => ⟨h1, h2.symm⟩
theorem isPunct_is (c : Int) (p : Bool) (hp : Md.punct c = p) (w : World) : Calls Trym.prog 21 #[.int .u8 c] w fun e w' => e = .returned (.bool p) ∧ w = w' :=
  (isPunct_any c w).mono fun _ _ ⟨h1, h2⟩ => ⟨by rw [← hp]; exact h1, h2.symm⟩

set_option maxHeartbeats 1600000 in
theorem balanced_any (a : Option Addr) (cap : Nat) (l : List Int) (w : World) (hB : Bs w a l) (hl : l.length ≤ 4194304) (hcap : l.length ≤ cap) :
    Calls Trym.prog 17 #[.slice a l.length cap] w fun e w' => e = .returned (.bool (Md.am l 0 0 0 0 0)) ∧ w' = w := by
  rcases hB with rfl | ⟨b, off, rfl, hc⟩
  · simp only [List.length_nil]
    go_enter Trym.func17, Trym.ntmps17
    go_wp2
    go_loop [3, 4] (fun s n => s = .int .i64 0 ∧ n = .int .i64 0) (fun _ _ => 0)
    case atStart => exact ⟨rfl, rfl⟩
    case round =>
      obtain ⟨rfl, rfl⟩ := hrel
      go_wp2
      go_ret
      exact ⟨rfl, rfl⟩
  · go_enter Trym.func17, Trym.ntmps17
    go_wp2
    go_loop [3, 4] (fun st i => ∃ k s : Nat, k ≤ l.length ∧ s ≤ k ∧ st = .int .i64 s ∧ i = .int .i64 k ∧ Md.am l 0 0 0 0 0 = Md.am (l.drop k) s 0 0 0 0) (fun _ i => l.length - (intOf i).toNat)
    case atStart => exact ⟨0, 0, Nat.zero_le _, Nat.le_refl _, rfl, rfl, by simp⟩
    case round =>
      obtain ⟨k, s, hk, hsk, rfl, rfl, hr⟩ := hrel
      have HR : Hid (Md.am l 0 0 0 0 0 = Md.am (l.drop k) s 0 0 0 0) := hr
      clear hr
      by_cases hlt : k < l.length
      · obtain ⟨x, hx⟩ : ∃ x, x = l.getD k 0 := ⟨_, rfl⟩
        have hcell := hc k hlt
        rw [← hx] at hcell
        have HX : Hid (x = l.getD k 0) := hx
        have HB : Hid (Bs w (some ⟨b, off + k, none⟩) (l.drop k)) := Bs.drop k hc
        have HC : Hid (∀ i, i < l.length → w.cell? ⟨b, off + i, none⟩ = some (.int .u8 (l.getD i 0))) := hc
        obtain ⟨m, hm⟩ : ∃ m, m = Md.rl x (l.drop k) := ⟨_, rfl⟩
        have HM : Hid (m = Md.rl x (l.drop k)) := hm
        obtain ⟨hm0, hm1⟩ := rl_pos x l k m hm hlt hx.symm
        clear hx hc hm
        by_cases h92 : x = 92
        · subst h92
          by_cases hk1 : k + 1 < l.length
          · obtain ⟨y, hy⟩ : ∃ y, y = l.getD (k + 1) 0 := ⟨_, rfl⟩
            have hcy := HC.out (k + 1) hk1
            rw [← hy] at hcy
            have HY : Hid (y = l.getD (k + 1) 0) := hy
            clear hy
            by_cases hp : Md.punct y = true
            · have HP : Hid (Md.punct y = true) := hp
              have H1 : Hid (Md.am l 0 0 0 0 0 = Md.am (l.drop (k + 2)) s 0 0 0 0) := by have := HR.out; rw [bal_escape l k s hk1 HX.out.symm (by rw [← HY.out]; exact hp)] at this; exact this
              clear hp
              go_wp2_with (first | (go_at_call 20; refine (runLength_is _ _ _ m (l.drop k) _ _ HM.out (by simp) HB.out (by simp; omega)).mono ?_; rintro e w' ⟨rfl, rfl⟩) | (go_at_call 21; refine (isPunct_is _ true HP.out _).mono ?_; rintro e w' ⟨rfl, rfl⟩))
              go_round
              case rel => exact ⟨k + 2, s, by omega, by omega, rfl, by go_num, H1.out⟩
              case measure => simp [intOf]; omega
            · have hp' : Md.punct y = false := by simpa using hp
              have HP : Hid (Md.punct y = false) := hp'
              have H1 : Hid (Md.am l 0 0 0 0 0 = Md.am (l.drop (k + m)) s 0 0 0 0) := by have := HR.out; rw [bal_slash l k s m hlt HX.out.symm (fun _ => by rw [← HY.out]; exact HP.out) HM.out] at this; exact this
              clear hp hp'
              go_wp2_with (first | (go_at_call 20; refine (runLength_is _ _ _ m (l.drop k) _ _ HM.out (by simp) HB.out (by simp; omega)).mono ?_; rintro e w' ⟨rfl, rfl⟩) | (go_at_call 21; refine (isPunct_is _ false HP.out _).mono ?_; rintro e w' ⟨rfl, rfl⟩))
              go_round
              case rel => exact ⟨k + m, s, by omega, by omega, rfl, by go_num, H1.out⟩
              case measure => simp [intOf]; omega
          · have H1 : Hid (Md.am l 0 0 0 0 0 = Md.am (l.drop (k + m)) s 0 0 0 0) := by have := HR.out; rw [bal_slash l k s m hlt HX.out.symm (fun h => absurd h hk1) HM.out] at this; exact this
            go_wp2_with (go_at_call 20; refine (runLength_is _ _ _ m (l.drop k) _ _ HM.out (by simp) HB.out (by simp; omega)).mono ?_; rintro e w' ⟨rfl, rfl⟩)
            go_round
            case rel => exact ⟨k + m, s, by omega, by omega, rfl, by go_num, H1.out⟩
            case measure => simp [intOf]; omega
        · have hn92 : (x == 92) = false := by simpa using h92
          by_cases h96 : x = 96
          · subst h96
            by_cases hfull : k + m = cap
            · have HE : Hid (l.drop (k + m) = []) := List.drop_of_length_le (by omega)
              have HS : Hid (Md.scan (m : Int) (l.drop (k + m)) 0 0 = -1) := by show Md.scan (m : Int) (l.drop (k + m)) 0 0 = -1; rw [HE.out]; rfl
              have H1 : Hid (Md.am l 0 0 0 0 0 = false) := by have := HR.out; rw [bal_none l k s m (-1) HM.out hm0 HS.out (by omega)] at this; exact this
              go_wp2_with (first | (go_at_call 20; refine (runLength_is _ _ _ m (l.drop k) _ _ HM.out (by simp) HB.out (by simp; omega)).mono ?_; rintro e w' ⟨rfl, rfl⟩) | (go_at_call 19; refine (closingRun_keep _ _ _ (l.drop (k + m)) _ (-1) _ HS.out (by rw [List.length_drop]; omega) (.inl HE.out) (by rw [HE.out]; simp) (by omega)).mono ?_; rintro e w' ⟨rfl, rfl⟩))
              go_ret
              exact ⟨ret_bool H1.out.symm, rfl⟩
            · obtain ⟨r, hr⟩ : ∃ r, Md.scan (m : Int) (l.drop (k + m)) 0 0 = r := ⟨_, rfl⟩
              have HS : Hid (Md.scan (m : Int) (l.drop (k + m)) 0 0 = r) := hr
              have HB2 : Hid (Bs w (some ⟨b, off + (k + m), none⟩) (l.drop (k + m))) := Bs.drop (k + m) HC.out
              clear hr
              by_cases hneg : r < 0
              · have H1 : Hid (Md.am l 0 0 0 0 0 = false) := by have := HR.out; rw [bal_none l k s m r HM.out hm0 HS.out hneg] at this; exact this
                go_wp2_with (first | (go_at_call 20; refine (runLength_is _ _ _ m (l.drop k) _ _ HM.out (by simp) HB.out (by simp; omega)).mono ?_; rintro e w' ⟨rfl, rfl⟩) | (go_at_call 19; refine (closingRun_keep _ _ _ (l.drop (k + m)) _ r _ HS.out (by simp) HB2.out (by simp; omega) (by omega)).mono ?_; rintro e w' ⟨rfl, rfl⟩))
                go_ret
                exact ⟨ret_bool H1.out.symm, rfl⟩
              · obtain ⟨q, rfl⟩ : ∃ q : Nat, r = (q : Int) := ⟨r.toNat, by omega⟩
                have H1 : Hid (Md.am l 0 0 0 0 0 = Md.am (l.drop (k + (m + (q + m)))) s 0 0 0 0) := by have := HR.out; rw [bal_code l k s m q _ HM.out hm0 HS.out rfl] at this; exact this
                have hq := bal_fits l k m q _ hm1 HS.out rfl
                go_wp2_with (first | (go_at_call 20; refine (runLength_is _ _ _ m (l.drop k) _ _ HM.out (by simp) HB.out (by simp; omega)).mono ?_; rintro e w' ⟨rfl, rfl⟩) | (go_at_call 19; refine (closingRun_keep _ _ _ (l.drop (k + m)) _ _ _ HS.out (by simp) HB2.out (by simp; omega) (by omega)).mono ?_; rintro e w' ⟨rfl, rfl⟩))
                go_round
                case rel => exact ⟨k + (m + (q + m)), s, by omega, by omega, rfl, by go_num, H1.out⟩
                case measure => simp [intOf]; omega
          · have hn96 : (x == 96) = false := by simpa using h96
            by_cases h42 : x = 42
            · subst h42
              have hst := bal_stars l k s m HM.out
              by_cases hm2 : 2 ≤ m
              · have H1 : Hid (Md.am l 0 0 0 0 0 = Md.am (l.drop (k + m)) (s + 1) 0 0 0 0) := by have := HR.out; rw [hst, if_pos hm2] at this; exact this
                clear hst
                go_wp2_with (go_at_call 20; refine (runLength_is _ _ _ m (l.drop k) _ _ HM.out (by simp) HB.out (by simp; omega)).mono ?_; rintro e w' ⟨rfl, rfl⟩)
                go_round
                case rel => exact ⟨k + m, s + 1, by omega, by omega, by go_num, by go_num, H1.out⟩
                case measure => simp [intOf]; omega
              · have H1 : Hid (Md.am l 0 0 0 0 0 = Md.am (l.drop (k + m)) s 0 0 0 0) := by have := HR.out; rw [hst, if_neg hm2] at this; exact this
                clear hst
                go_wp2_with (go_at_call 20; refine (runLength_is _ _ _ m (l.drop k) _ _ HM.out (by simp) HB.out (by simp; omega)).mono ?_; rintro e w' ⟨rfl, rfl⟩)
                go_round
                case rel => exact ⟨k + m, s, by omega, by omega, rfl, by go_num, H1.out⟩
                case measure => simp [intOf]; omega
            · have hn42 : (x == 42) = false := by simpa using h42
              have H1 : Hid (Md.am l 0 0 0 0 0 = Md.am (l.drop (k + m)) s 0 0 0 0) := by have := HR.out; rw [bal_other l k s m x HM.out h42 h96 h92] at this; exact this
              go_wp2_with (go_at_call 20; refine (runLength_is _ _ _ m (l.drop k) _ _ HM.out (by simp) HB.out (by simp; omega)).mono ?_; rintro e w' ⟨rfl, rfl⟩)
              go_round
              case rel => exact ⟨k + m, s, by omega, by omega, rfl, by go_num, H1.out⟩
              case measure => simp [intOf]; omega
      · have hkk : k = l.length := by omega
        have HF : Hid (Md.am l 0 0 0 0 0 = decide (s % 2 = 0)) := by have := HR.out; rw [List.drop_of_length_le (by omega)] at this; exact this
        clear hkk
        go_wp2
        go_ret
        exact ⟨ret_bool (by rw [HF.out]; exact even_nat s), rfl⟩
end Go.Proofs.Qxb6605370aMods
