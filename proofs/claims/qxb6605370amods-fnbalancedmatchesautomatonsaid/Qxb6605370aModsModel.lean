/-
  WALKS of seat b6605370aM: zzB1AsciiPunct, zzB1BalancedModel.
-/
import Derived.Test.Qxb6605370aModsTicks
namespace Go.Proofs.Qxb6605370aMods
open Go.RowKit

set_option maxHeartbeats 800000 in
theorem asciiPunct_is (c : Int) (p : Bool) (hpc : Md.punct c = p) (w : World) : Calls Trym.prog 18 #[.int .u8 c] w fun e w' => e = .returned (.bool p) ∧ w = w' := by
  have cases9 : c ≤ 32 ∨ (33 ≤ c ∧ c ≤ 47) ∨ (48 ≤ c ∧ c ≤ 57) ∨ (58 ≤ c ∧ c ≤ 64) ∨ (65 ≤ c ∧ c ≤ 90) ∨ (91 ≤ c ∧ c ≤ 96) ∨ (97 ≤ c ∧ c ≤ 122) ∨ (123 ≤ c ∧ c ≤ 126) ∨ 127 ≤ c := by omega
  have hp : Hid (p = decide ((33 ≤ c ∧ c ≤ 47) ∨ (58 ≤ c ∧ c ≤ 64) ∨ (91 ≤ c ∧ c ≤ 96) ∨ (123 ≤ c ∧ c ≤ 126))) := hpc.symm
  clear hpc
  rcases cases9 with h | ⟨h, h'⟩ | ⟨h, h'⟩ | ⟨h, h'⟩ | ⟨h, h'⟩ | ⟨h, h'⟩ | ⟨h, h'⟩ | ⟨h, h'⟩ | h
  all_goals
    go_enter Trym.func18, Trym.ntmps18
    go_wp2
    go_ret
    refine ⟨ret_bool ?_, rfl⟩
    rw [hp.out]
    first
      | exact (decide_eq_true (by omega)).symm
      | exact (decide_eq_false (by omega)).symm
      | (apply Bool.eq_iff_iff.2; simp; omega)

/-! ### THE AUTOMATON's STEPS, at every state -/
theorem bm_tick (r : List Int) (s st t o n : Nat) (ho : 0 < o) : Md.am (96 :: r) s st t o n = Md.am r s st t o (n + 1) := by
  conv => lhs; unfold Md.am
  simp [ho]
theorem bm_inner (c : Int) (r : List Int) (s st t o n : Nat) (ho : 0 < o) (hc : c ≠ 96) (hn : n ≠ o) : Md.am (c :: r) s st t o n = Md.am r s st t o 0 := by
  conv => lhs; unfold Md.am
  simp [ho, hc, hn]
theorem bm_close (c : Int) (r : List Int) (s st t o : Nat) (ho : 0 < o) (hc : c ≠ 96) : Md.am (c :: r) s st t o o = Md.am (c :: r) s st t 0 0 := by
  conv => lhs; unfold Md.am
  conv => rhs; unfold Md.am
  simp [ho, hc]
theorem bm_more (r : List Int) (s st t n : Nat) (ht : 0 < t) : Md.am (96 :: r) s st t 0 n = Md.am r s st (t + 1) 0 n := by
  conv => lhs; unfold Md.am
  simp [ht]
theorem bm_opens (c : Int) (r : List Int) (s st t n : Nat) (ht : 0 < t) (hc : c ≠ 96) : Md.am (c :: r) s st t 0 n = Md.am r s st 0 t 0 := by
  conv => lhs; unfold Md.am
  simp [ht, hc]
theorem bm_star (r : List Int) (s st n : Nat) : Md.am (42 :: r) s st 0 0 n = Md.am r s (st + 1) 0 0 n := by
  conv => lhs; unfold Md.am
  simp
theorem bm_first (r : List Int) (s st n s' : Nat) (hs : (if 2 ≤ st then s + 1 else s) = s') : Md.am (96 :: r) s st 0 0 n = Md.am r s' 0 1 0 n := by
  conv => lhs; unfold Md.am
  simp [hs]
theorem bm_esc (d : Int) (r : List Int) (s st n s' : Nat) (hs : (if 2 ≤ st then s + 1 else s) = s') (hd : Md.punct d = true) : Md.am (92 :: d :: r) s st 0 0 n = Md.am r s' 0 0 0 n := by
  conv => lhs; unfold Md.am
  simp [hs, hd]
theorem bm_rest (c : Int) (r : List Int) (s st n s' : Nat) (hs : (if 2 ≤ st then s + 1 else s) = s') (h1 : c ≠ 42) (h2 : c ≠ 96) (h3 : c = 92 → ∀ d r', r = d :: r' → Md.punct d = false) : Md.am (c :: r) s st 0 0 n = Md.am r s' 0 0 0 n := by
  cases r with
  | nil => simp [Md.am, h1, h2, hs]
  | cons d r' =>
    have h : ¬ (c = 92 ∧ Md.punct d = true) := fun ⟨a, b⟩ => by rw [h3 a d r' rfl] at b; cases b
    conv => lhs; unfold Md.am
    simp only [h1, h2, h, hs, Nat.lt_irrefl, false_and, and_false, if_false]

theorem even_succ (s : Nat) : ((((s : Int) + 1) % 2 == 0) : Bool) = decide ((s + 1) % 2 = 0) := by
  have := even_nat (s + 1)
  rw [← this]; rfl

set_option maxHeartbeats 3200000 in
theorem model_any (a : Option Addr) (cap : Nat) (l : List Int) (w : World) (hB : Bs w a l) (hl : l.length ≤ 4194304) :
    Calls Trym.prog 10 #[.slice a l.length cap] w fun e w' => e = .returned (.bool (Md.am l 0 0 0 0 0)) ∧ w = w' := by
  rcases hB with rfl | ⟨b, off, rfl, hc⟩
  · simp only [List.length_nil]
    go_enter Trym.func10, Trym.ntmps10
    go_wp2
    go_loop [3, 4, 5, 6, 7, 8] (fun a1 a2 a3 a4 a5 a6 => a1 = .int .i64 0 ∧ a2 = .int .i64 0 ∧ a3 = .int .i64 0 ∧ a4 = .int .i64 0 ∧ a5 = .int .i64 0 ∧ a6 = .int .i64 0) (fun _ _ _ _ _ _ => 0)
    case atStart => exact ⟨rfl, rfl, rfl, rfl, rfl, rfl⟩
    case round =>
      obtain ⟨rfl, rfl, rfl, rfl, rfl, rfl⟩ := hrel
      go_wp2
      go_ret
      exact ⟨rfl, rfl⟩
  · go_enter Trym.func10, Trym.ntmps10
    go_wp2
    go_loop [3, 4, 5, 6, 7, 8] (fun a1 a2 a3 a4 a5 a6 => ∃ k s st t o n : Nat, k ≤ l.length ∧ s ≤ k ∧ st ≤ k ∧ t ≤ k ∧ o ≤ k ∧ n ≤ k ∧ a1 = .int .i64 s ∧ a2 = .int .i64 st ∧ a3 = .int .i64 t ∧ a4 = .int .i64 o ∧ a5 = .int .i64 n ∧ a6 = .int .i64 k ∧ Md.am l 0 0 0 0 0 = Md.am (l.drop k) s st t o n) (fun _ _ _ _ _ i => l.length - (intOf i).toNat)
    case atStart => exact ⟨0, 0, 0, 0, 0, 0, Nat.zero_le _, Nat.le_refl _, Nat.le_refl _, Nat.le_refl _, Nat.le_refl _, Nat.le_refl _, rfl, rfl, rfl, rfl, rfl, rfl, by simp⟩
    case round =>
      obtain ⟨k, s, st, t, o, n, hk, hs1, hs2, hs3, hs4, hs5, rfl, rfl, rfl, rfl, rfl, rfl, hr⟩ := hrel
      have HR : Hid (Md.am l 0 0 0 0 0 = Md.am (l.drop k) s st t o n) := hr
      clear hr
      by_cases hlt : k < l.length
      · obtain ⟨x, hx⟩ : ∃ x, x = l.getD k 0 := ⟨_, rfl⟩
        have hcell := hc k hlt
        rw [← hx] at hcell
        have HC : Hid (∀ i, i < l.length → w.cell? ⟨b, off + i, none⟩ = some (.int .u8 (l.getD i 0))) := hc
        have HX : Hid (l.drop k = x :: l.drop (k + 1)) := by have := drop_cons l k hlt; rw [← hx] at this; exact this
        clear hx hc
        have HR' : Hid (Md.am l 0 0 0 0 0 = Md.am (x :: l.drop (k + 1)) s st t o n) := by have := HR.out; rw [HX.out] at this; exact this
        clear HR
        by_cases ho : 0 < o
        · by_cases h96 : x = 96
          · subst h96
            have H1 : Hid (Md.am l 0 0 0 0 0 = Md.am (l.drop (k + 1)) (s) (st) (t) (o) (n + 1)) := by have := HR'.out; rw [bm_tick _ _ _ _ _ _ ho] at this; exact this
            go_wp2
            go_round
            case rel => exact ⟨k + 1, s, st, t, o, n + 1, by omega, by omega, by omega, by omega, by omega, by omega, by go_num, by go_num, by go_num, by go_num, by go_num, by go_num, H1.out⟩
            case measure => simp [intOf]; omega
          · have hn96 : (x == 96) = false := by simpa using h96
            by_cases hno : n = o
            · subst hno
              have HR2 : Hid (Md.am l 0 0 0 0 0 = Md.am (x :: l.drop (k + 1)) s st t 0 0) := by have := HR'.out; rw [bm_close _ _ _ _ _ _ ho h96] at this; exact this
              clear HR'
              have HR' := HR2
              clear HR2
              by_cases ht : 0 < t
              · have H1 : Hid (Md.am l 0 0 0 0 0 = Md.am (l.drop (k + 1)) (s) (st) (0) (t) (0)) := by have := HR'.out; rw [bm_opens _ _ _ _ _ _ ht h96] at this; exact this
                go_wp2
                go_round
                case rel => exact ⟨k + 1, s, st, 0, t, 0, by omega, by omega, by omega, by omega, by omega, by omega, by go_num, by go_num, by go_num, by go_num, by go_num, by go_num, H1.out⟩
                case measure => simp [intOf]; omega
              · obtain rfl : t = 0 := by omega
                clear ht
                by_cases h42 : x = 42
                · subst h42
                  have H1 : Hid (Md.am l 0 0 0 0 0 = Md.am (l.drop (k + 1)) (s) (st + 1) (0) (0) (0)) := by have := HR'.out; rw [bm_star] at this; exact this
                  go_wp2
                  go_round
                  case rel => exact ⟨k + 1, s, st + 1, 0, 0, 0, by omega, by omega, by omega, by omega, by omega, by omega, by go_num, by go_num, by go_num, by go_num, by go_num, by go_num, H1.out⟩
                  case measure => simp [intOf]; omega
                · have hn42 : (x == 42) = false := by simpa using h42
                  by_cases hst : 2 ≤ st
                  · have HS : Hid ((if 2 ≤ st then s + 1 else s) = s + 1) := if_pos hst
                    by_cases h92 : x = 92
                    · subst h92
                      by_cases hk1 : k + 1 < l.length
                      · obtain ⟨y, hy⟩ : ∃ y, y = l.getD (k + 1) 0 := ⟨_, rfl⟩
                        have hcy := HC.out (k + 1) hk1
                        rw [← hy] at hcy
                        have HD : Hid (l.drop (k + 1) = y :: l.drop (k + 2)) := by have := drop_cons l (k + 1) hk1; rw [← hy] at this; exact this
                        clear hy
                        by_cases hp : Md.punct y = true
                        · have HP : Hid (Md.punct y = true) := hp
                          clear hp
                          have H1 : Hid (Md.am l 0 0 0 0 0 = Md.am (l.drop (k + 2)) (s + 1) (0) (0) (0) (0)) := by have := HR'.out; rw [HD.out, bm_esc _ _ _ _ _ _ HS.out HP.out] at this; exact this
                          go_wp2_with (go_at_call 18; refine (asciiPunct_is _ true HP.out _).mono ?_; rintro e w' ⟨rfl, rfl⟩)
                          go_round
                          case rel => exact ⟨k + 2, s + 1, 0, 0, 0, 0, by omega, by omega, by omega, by omega, by omega, by omega, by go_num, by go_num, by go_num, by go_num, by go_num, by go_num, H1.out⟩
                          case measure => simp [intOf]; omega
                        · have hp' : Md.punct y = false := by simpa using hp
                          have HP : Hid (Md.punct y = false) := hp'
                          have HNP : Hid ((92 : Int) = 92 → ∀ d r', l.drop (k + 1) = d :: r' → Md.punct d = false) := fun _ d r' hd => by have := HD.out; rw [this] at hd; rw [← (List.cons.inj hd).1]; exact hp'
                          clear hp hp'
                          have H1 : Hid (Md.am l 0 0 0 0 0 = Md.am (l.drop (k + 1)) (s + 1) (0) (0) (0) (0)) := by have := HR'.out; rw [bm_rest _ _ _ _ _ _ HS.out (by decide) (by decide) HNP.out] at this; exact this
                          go_wp2_with (go_at_call 18; refine (asciiPunct_is _ false HP.out _).mono ?_; rintro e w' ⟨rfl, rfl⟩)
                          go_round
                          case rel => exact ⟨k + 1, s + 1, 0, 0, 0, 0, by omega, by omega, by omega, by omega, by omega, by omega, by go_num, by go_num, by go_num, by go_num, by go_num, by go_num, H1.out⟩
                          case measure => simp [intOf]; omega
                      · have HNP : Hid ((92 : Int) = 92 → ∀ d r', l.drop (k + 1) = d :: r' → Md.punct d = false) := fun _ d r' hd => by rw [List.drop_of_length_le (by omega)] at hd; cases hd
                        have H1 : Hid (Md.am l 0 0 0 0 0 = Md.am (l.drop (k + 1)) (s + 1) (0) (0) (0) (0)) := by have := HR'.out; rw [bm_rest _ _ _ _ _ _ HS.out (by decide) (by decide) HNP.out] at this; exact this
                        go_wp2
                        go_round
                        case rel => exact ⟨k + 1, s + 1, 0, 0, 0, 0, by omega, by omega, by omega, by omega, by omega, by omega, by go_num, by go_num, by go_num, by go_num, by go_num, by go_num, H1.out⟩
                        case measure => simp [intOf]; omega
                    · have hn92 : (x == 92) = false := by simpa using h92
                      have H1 : Hid (Md.am l 0 0 0 0 0 = Md.am (l.drop (k + 1)) (s + 1) (0) (0) (0) (0)) := by have := HR'.out; rw [bm_rest _ _ _ _ _ _ HS.out h42 h96 (fun h => absurd h h92)] at this; exact this
                      go_wp2
                      go_round
                      case rel => exact ⟨k + 1, s + 1, 0, 0, 0, 0, by omega, by omega, by omega, by omega, by omega, by omega, by go_num, by go_num, by go_num, by go_num, by go_num, by go_num, H1.out⟩
                      case measure => simp [intOf]; omega
                  · have HS : Hid ((if 2 ≤ st then s + 1 else s) = s) := if_neg hst
                    by_cases h92 : x = 92
                    · subst h92
                      by_cases hk1 : k + 1 < l.length
                      · obtain ⟨y, hy⟩ : ∃ y, y = l.getD (k + 1) 0 := ⟨_, rfl⟩
                        have hcy := HC.out (k + 1) hk1
                        rw [← hy] at hcy
                        have HD : Hid (l.drop (k + 1) = y :: l.drop (k + 2)) := by have := drop_cons l (k + 1) hk1; rw [← hy] at this; exact this
                        clear hy
                        by_cases hp : Md.punct y = true
                        · have HP : Hid (Md.punct y = true) := hp
                          clear hp
                          have H1 : Hid (Md.am l 0 0 0 0 0 = Md.am (l.drop (k + 2)) (s) (0) (0) (0) (0)) := by have := HR'.out; rw [HD.out, bm_esc _ _ _ _ _ _ HS.out HP.out] at this; exact this
                          go_wp2_with (go_at_call 18; refine (asciiPunct_is _ true HP.out _).mono ?_; rintro e w' ⟨rfl, rfl⟩)
                          go_round
                          case rel => exact ⟨k + 2, s, 0, 0, 0, 0, by omega, by omega, by omega, by omega, by omega, by omega, by go_num, by go_num, by go_num, by go_num, by go_num, by go_num, H1.out⟩
                          case measure => simp [intOf]; omega
                        · have hp' : Md.punct y = false := by simpa using hp
                          have HP : Hid (Md.punct y = false) := hp'
                          have HNP : Hid ((92 : Int) = 92 → ∀ d r', l.drop (k + 1) = d :: r' → Md.punct d = false) := fun _ d r' hd => by have := HD.out; rw [this] at hd; rw [← (List.cons.inj hd).1]; exact hp'
                          clear hp hp'
                          have H1 : Hid (Md.am l 0 0 0 0 0 = Md.am (l.drop (k + 1)) (s) (0) (0) (0) (0)) := by have := HR'.out; rw [bm_rest _ _ _ _ _ _ HS.out (by decide) (by decide) HNP.out] at this; exact this
                          go_wp2_with (go_at_call 18; refine (asciiPunct_is _ false HP.out _).mono ?_; rintro e w' ⟨rfl, rfl⟩)
                          go_round
                          case rel => exact ⟨k + 1, s, 0, 0, 0, 0, by omega, by omega, by omega, by omega, by omega, by omega, by go_num, by go_num, by go_num, by go_num, by go_num, by go_num, H1.out⟩
                          case measure => simp [intOf]; omega
                      · have HNP : Hid ((92 : Int) = 92 → ∀ d r', l.drop (k + 1) = d :: r' → Md.punct d = false) := fun _ d r' hd => by rw [List.drop_of_length_le (by omega)] at hd; cases hd
                        have H1 : Hid (Md.am l 0 0 0 0 0 = Md.am (l.drop (k + 1)) (s) (0) (0) (0) (0)) := by have := HR'.out; rw [bm_rest _ _ _ _ _ _ HS.out (by decide) (by decide) HNP.out] at this; exact this
                        go_wp2
                        go_round
                        case rel => exact ⟨k + 1, s, 0, 0, 0, 0, by omega, by omega, by omega, by omega, by omega, by omega, by go_num, by go_num, by go_num, by go_num, by go_num, by go_num, H1.out⟩
                        case measure => simp [intOf]; omega
                    · have hn92 : (x == 92) = false := by simpa using h92
                      have H1 : Hid (Md.am l 0 0 0 0 0 = Md.am (l.drop (k + 1)) (s) (0) (0) (0) (0)) := by have := HR'.out; rw [bm_rest _ _ _ _ _ _ HS.out h42 h96 (fun h => absurd h h92)] at this; exact this
                      go_wp2
                      go_round
                      case rel => exact ⟨k + 1, s, 0, 0, 0, 0, by omega, by omega, by omega, by omega, by omega, by omega, by go_num, by go_num, by go_num, by go_num, by go_num, by go_num, H1.out⟩
                      case measure => simp [intOf]; omega
            · have hnob : ((n : Int) == (o : Int)) = false := by simp; omega
              have H1 : Hid (Md.am l 0 0 0 0 0 = Md.am (l.drop (k + 1)) (s) (st) (t) (o) (0)) := by have := HR'.out; rw [bm_inner _ _ _ _ _ _ _ ho h96 hno] at this; exact this
              go_wp2
              go_round
              case rel => exact ⟨k + 1, s, st, t, o, 0, by omega, by omega, by omega, by omega, by omega, by omega, by go_num, by go_num, by go_num, by go_num, by go_num, by go_num, H1.out⟩
              case measure => simp [intOf]; omega
        · obtain rfl : o = 0 := by omega
          clear ho
          by_cases ht : 0 < t
          · by_cases h96 : x = 96
            · subst h96
              have H1 : Hid (Md.am l 0 0 0 0 0 = Md.am (l.drop (k + 1)) (s) (st) (t + 1) (0) (n)) := by have := HR'.out; rw [bm_more _ _ _ _ _ ht] at this; exact this
              go_wp2
              go_round
              case rel => exact ⟨k + 1, s, st, t + 1, 0, n, by omega, by omega, by omega, by omega, by omega, by omega, by go_num, by go_num, by go_num, by go_num, by go_num, by go_num, H1.out⟩
              case measure => simp [intOf]; omega
            · have hn96 : (x == 96) = false := by simpa using h96
              have H1 : Hid (Md.am l 0 0 0 0 0 = Md.am (l.drop (k + 1)) (s) (st) (0) (t) (0)) := by have := HR'.out; rw [bm_opens _ _ _ _ _ _ ht h96] at this; exact this
              go_wp2
              go_round
              case rel => exact ⟨k + 1, s, st, 0, t, 0, by omega, by omega, by omega, by omega, by omega, by omega, by go_num, by go_num, by go_num, by go_num, by go_num, by go_num, H1.out⟩
              case measure => simp [intOf]; omega
          · obtain rfl : t = 0 := by omega
            clear ht
            by_cases h42 : x = 42
            · subst h42
              have H1 : Hid (Md.am l 0 0 0 0 0 = Md.am (l.drop (k + 1)) (s) (st + 1) (0) (0) (n)) := by have := HR'.out; rw [bm_star] at this; exact this
              go_wp2
              go_round
              case rel => exact ⟨k + 1, s, st + 1, 0, 0, n, by omega, by omega, by omega, by omega, by omega, by omega, by go_num, by go_num, by go_num, by go_num, by go_num, by go_num, H1.out⟩
              case measure => simp [intOf]; omega
            · have hn42 : (x == 42) = false := by simpa using h42
              by_cases hst : 2 ≤ st
              · have HS : Hid ((if 2 ≤ st then s + 1 else s) = s + 1) := if_pos hst
                by_cases h96 : x = 96
                · subst h96
                  have H1 : Hid (Md.am l 0 0 0 0 0 = Md.am (l.drop (k + 1)) (s + 1) (0) (1) (0) (n)) := by have := HR'.out; rw [bm_first _ _ _ _ _ HS.out] at this; exact this
                  go_wp2
                  go_round
                  case rel => exact ⟨k + 1, s + 1, 0, 1, 0, n, by omega, by omega, by omega, by omega, by omega, by omega, by go_num, by go_num, by go_num, by go_num, by go_num, by go_num, H1.out⟩
                  case measure => simp [intOf]; omega
                · have hn96 : (x == 96) = false := by simpa using h96
                  by_cases h92 : x = 92
                  · subst h92
                    by_cases hk1 : k + 1 < l.length
                    · obtain ⟨y, hy⟩ : ∃ y, y = l.getD (k + 1) 0 := ⟨_, rfl⟩
                      have hcy := HC.out (k + 1) hk1
                      rw [← hy] at hcy
                      have HD : Hid (l.drop (k + 1) = y :: l.drop (k + 2)) := by have := drop_cons l (k + 1) hk1; rw [← hy] at this; exact this
                      clear hy
                      by_cases hp : Md.punct y = true
                      · have HP : Hid (Md.punct y = true) := hp
                        clear hp
                        have H1 : Hid (Md.am l 0 0 0 0 0 = Md.am (l.drop (k + 2)) (s + 1) (0) (0) (0) (n)) := by have := HR'.out; rw [HD.out, bm_esc _ _ _ _ _ _ HS.out HP.out] at this; exact this
                        go_wp2_with (go_at_call 18; refine (asciiPunct_is _ true HP.out _).mono ?_; rintro e w' ⟨rfl, rfl⟩)
                        go_round
                        case rel => exact ⟨k + 2, s + 1, 0, 0, 0, n, by omega, by omega, by omega, by omega, by omega, by omega, by go_num, by go_num, by go_num, by go_num, by go_num, by go_num, H1.out⟩
                        case measure => simp [intOf]; omega
                      · have hp' : Md.punct y = false := by simpa using hp
                        have HP : Hid (Md.punct y = false) := hp'
                        have HNP : Hid ((92 : Int) = 92 → ∀ d r', l.drop (k + 1) = d :: r' → Md.punct d = false) := fun _ d r' hd => by have := HD.out; rw [this] at hd; rw [← (List.cons.inj hd).1]; exact hp'
                        clear hp hp'
                        have H1 : Hid (Md.am l 0 0 0 0 0 = Md.am (l.drop (k + 1)) (s + 1) (0) (0) (0) (n)) := by have := HR'.out; rw [bm_rest _ _ _ _ _ _ HS.out (by decide) (by decide) HNP.out] at this; exact this
                        go_wp2_with (go_at_call 18; refine (asciiPunct_is _ false HP.out _).mono ?_; rintro e w' ⟨rfl, rfl⟩)
                        go_round
                        case rel => exact ⟨k + 1, s + 1, 0, 0, 0, n, by omega, by omega, by omega, by omega, by omega, by omega, by go_num, by go_num, by go_num, by go_num, by go_num, by go_num, H1.out⟩
                        case measure => simp [intOf]; omega
                    · have HNP : Hid ((92 : Int) = 92 → ∀ d r', l.drop (k + 1) = d :: r' → Md.punct d = false) := fun _ d r' hd => by rw [List.drop_of_length_le (by omega)] at hd; cases hd
                      have H1 : Hid (Md.am l 0 0 0 0 0 = Md.am (l.drop (k + 1)) (s + 1) (0) (0) (0) (n)) := by have := HR'.out; rw [bm_rest _ _ _ _ _ _ HS.out (by decide) (by decide) HNP.out] at this; exact this
                      go_wp2
                      go_round
                      case rel => exact ⟨k + 1, s + 1, 0, 0, 0, n, by omega, by omega, by omega, by omega, by omega, by omega, by go_num, by go_num, by go_num, by go_num, by go_num, by go_num, H1.out⟩
                      case measure => simp [intOf]; omega
                  · have hn92 : (x == 92) = false := by simpa using h92
                    have H1 : Hid (Md.am l 0 0 0 0 0 = Md.am (l.drop (k + 1)) (s + 1) (0) (0) (0) (n)) := by have := HR'.out; rw [bm_rest _ _ _ _ _ _ HS.out h42 h96 (fun h => absurd h h92)] at this; exact this
                    go_wp2
                    go_round
                    case rel => exact ⟨k + 1, s + 1, 0, 0, 0, n, by omega, by omega, by omega, by omega, by omega, by omega, by go_num, by go_num, by go_num, by go_num, by go_num, by go_num, H1.out⟩
                    case measure => simp [intOf]; omega
              · have HS : Hid ((if 2 ≤ st then s + 1 else s) = s) := if_neg hst
                by_cases h96 : x = 96
                · subst h96
                  have H1 : Hid (Md.am l 0 0 0 0 0 = Md.am (l.drop (k + 1)) (s) (0) (1) (0) (n)) := by have := HR'.out; rw [bm_first _ _ _ _ _ HS.out] at this; exact this
                  go_wp2
                  go_round
                  case rel => exact ⟨k + 1, s, 0, 1, 0, n, by omega, by omega, by omega, by omega, by omega, by omega, by go_num, by go_num, by go_num, by go_num, by go_num, by go_num, H1.out⟩
                  case measure => simp [intOf]; omega
                · have hn96 : (x == 96) = false := by simpa using h96
                  by_cases h92 : x = 92
                  · subst h92
                    by_cases hk1 : k + 1 < l.length
                    · obtain ⟨y, hy⟩ : ∃ y, y = l.getD (k + 1) 0 := ⟨_, rfl⟩
                      have hcy := HC.out (k + 1) hk1
                      rw [← hy] at hcy
                      have HD : Hid (l.drop (k + 1) = y :: l.drop (k + 2)) := by have := drop_cons l (k + 1) hk1; rw [← hy] at this; exact this
                      clear hy
                      by_cases hp : Md.punct y = true
                      · have HP : Hid (Md.punct y = true) := hp
                        clear hp
                        have H1 : Hid (Md.am l 0 0 0 0 0 = Md.am (l.drop (k + 2)) (s) (0) (0) (0) (n)) := by have := HR'.out; rw [HD.out, bm_esc _ _ _ _ _ _ HS.out HP.out] at this; exact this
                        go_wp2_with (go_at_call 18; refine (asciiPunct_is _ true HP.out _).mono ?_; rintro e w' ⟨rfl, rfl⟩)
                        go_round
                        case rel => exact ⟨k + 2, s, 0, 0, 0, n, by omega, by omega, by omega, by omega, by omega, by omega, by go_num, by go_num, by go_num, by go_num, by go_num, by go_num, H1.out⟩
                        case measure => simp [intOf]; omega
                      · have hp' : Md.punct y = false := by simpa using hp
                        have HP : Hid (Md.punct y = false) := hp'
                        have HNP : Hid ((92 : Int) = 92 → ∀ d r', l.drop (k + 1) = d :: r' → Md.punct d = false) := fun _ d r' hd => by have := HD.out; rw [this] at hd; rw [← (List.cons.inj hd).1]; exact hp'
                        clear hp hp'
                        have H1 : Hid (Md.am l 0 0 0 0 0 = Md.am (l.drop (k + 1)) (s) (0) (0) (0) (n)) := by have := HR'.out; rw [bm_rest _ _ _ _ _ _ HS.out (by decide) (by decide) HNP.out] at this; exact this
                        go_wp2_with (go_at_call 18; refine (asciiPunct_is _ false HP.out _).mono ?_; rintro e w' ⟨rfl, rfl⟩)
                        go_round
                        case rel => exact ⟨k + 1, s, 0, 0, 0, n, by omega, by omega, by omega, by omega, by omega, by omega, by go_num, by go_num, by go_num, by go_num, by go_num, by go_num, H1.out⟩
                        case measure => simp [intOf]; omega
                    · have HNP : Hid ((92 : Int) = 92 → ∀ d r', l.drop (k + 1) = d :: r' → Md.punct d = false) := fun _ d r' hd => by rw [List.drop_of_length_le (by omega)] at hd; cases hd
                      have H1 : Hid (Md.am l 0 0 0 0 0 = Md.am (l.drop (k + 1)) (s) (0) (0) (0) (n)) := by have := HR'.out; rw [bm_rest _ _ _ _ _ _ HS.out (by decide) (by decide) HNP.out] at this; exact this
                      go_wp2
                      go_round
                      case rel => exact ⟨k + 1, s, 0, 0, 0, n, by omega, by omega, by omega, by omega, by omega, by omega, by go_num, by go_num, by go_num, by go_num, by go_num, by go_num, H1.out⟩
                      case measure => simp [intOf]; omega
                  · have hn92 : (x == 92) = false := by simpa using h92
                    have H1 : Hid (Md.am l 0 0 0 0 0 = Md.am (l.drop (k + 1)) (s) (0) (0) (0) (n)) := by have := HR'.out; rw [bm_rest _ _ _ _ _ _ HS.out h42 h96 (fun h => absurd h h92)] at this; exact this
                    go_wp2
                    go_round
                    case rel => exact ⟨k + 1, s, 0, 0, 0, n, by omega, by omega, by omega, by omega, by omega, by omega, by go_num, by go_num, by go_num, by go_num, by go_num, by go_num, H1.out⟩
                    case measure => simp [intOf]; omega
      · have HF : Hid (Md.am l 0 0 0 0 0 = Md.fin s st t o n) := by have := HR.out; rw [List.drop_of_length_le (by omega)] at this; exact this
        by_cases hbad : 0 < o ∧ n ≠ o
        · have H1 : Hid (Md.am l 0 0 0 0 0 = false) := by have := HF.out; unfold Md.fin at this; rw [if_pos hbad] at this; exact this
          obtain ⟨ho, hno⟩ := hbad
          have hnob : ((n : Int) == (o : Int)) = false := by simp; omega
          go_wp2
          go_ret
          exact ⟨ret_bool H1.out.symm, rfl⟩
        · have H0 : Hid (Md.am l 0 0 0 0 0 = if 0 < t then false else decide ((if 2 ≤ st then s + 1 else s) % 2 = 0)) := by have := HF.out; unfold Md.fin at this; rw [if_neg hbad] at this; exact this
          have hon : (0 < o ∧ n = o) ∨ o = 0 := by omega
          clear hbad HF HR
          rcases hon with ⟨ho, rfl⟩ | rfl
          all_goals
            by_cases ht : 0 < t
            · have H1 : Hid (Md.am l 0 0 0 0 0 = false) := by have := H0.out; rw [if_pos ht] at this; exact this
              go_wp2
              go_ret
              exact ⟨ret_bool H1.out.symm, rfl⟩
            · by_cases hst : 2 ≤ st
              · have H1 : Hid (Md.am l 0 0 0 0 0 = decide ((s + 1) % 2 = 0)) := by have := H0.out; rw [if_neg ht, if_pos hst] at this; exact this
                go_wp2
                go_ret
                exact ⟨ret_bool (by rw [H1.out]; exact even_succ s), rfl⟩
              · have H1 : Hid (Md.am l 0 0 0 0 0 = decide (s % 2 = 0)) := by have := H0.out; rw [if_neg ht, if_neg hst] at this; exact this
                go_wp2
                go_ret
                exact ⟨ret_bool (by rw [H1.out]; exact even_nat s), rfl⟩
end Go.Proofs.Qxb6605370aMods
