/-
  WALK of seat b6605370aM: zzB1ClosingModel; the small wrappers.
-/
import Derived.Test.Qxb6605370aModsRun
namespace Go.Proofs.Qxb6605370aMods
open Go.RowKit

/-- WHAT THE MODEL STILL OWES AT PLACE k: behind a backtick the run that was measured is passed over. -/
def Tm (n : Int) (l : List Int) (k : Nat) : Int :=
  if 0 < k ∧ l.getD (k - 1) 0 = 96 then Md.scan n (l.drop (k + Md.rl 96 (l.drop k))) 0 (k + Md.rl 96 (l.drop k)) else Md.scan n (l.drop k) 0 k

theorem tm_zero (n : Int) (l : List Int) : Tm n l 0 = Md.scan n l 0 0 := by simp [Tm]
theorem tm_end (n : Int) (l : List Int) (k : Nat) (h : l.length ≤ k) : Tm n l k = -1 := by
  unfold Tm
  rw [List.drop_of_length_le h, List.drop_of_length_le (by simp [Md.rl]; exact h)]
  split <;> simp [Md.scan]
theorem tm_other (n : Int) (l : List Int) (k : Nat) (h : k < l.length) (e : l.getD k 0 ≠ 96) : Tm n l k = Tm n l (k + 1) := by
  have e2 : Tm n l (k + 1) = Md.scan n (l.drop (k + 1)) 0 (k + 1) := by
    unfold Tm; rw [if_neg (by rw [Nat.add_sub_cancel]; exact fun x => e x.2)]
  rw [e2, ← scan_step_other n l k h e]
  unfold Tm
  rw [rl_step_no l 96 k h e, Nat.add_zero, ite_self]
theorem tm_next (n : Int) (l : List Int) (k : Nat) (h : k < l.length) (e : l.getD k 0 = 96) : Tm n l (k + 1) = Md.scan n (l.drop (k + Md.rl 96 (l.drop k))) 0 (k + Md.rl 96 (l.drop k)) := by
  unfold Tm
  rw [if_pos ⟨by omega, by rw [Nat.add_sub_cancel]; exact e⟩, rl_step_yes l 96 k h e, show k + 1 + Md.rl 96 (l.drop (k + 1)) = k + (Md.rl 96 (l.drop (k + 1)) + 1) by omega]
theorem tm_inrun (n : Int) (l : List Int) (k : Nat) (h : k < l.length) (e : l.getD k 0 = 96) (h0 : 0 < k) (e0 : l.getD (k - 1) 0 = 96) : Tm n l k = Tm n l (k + 1) := by
  rw [tm_next n l k h e]
  unfold Tm
  rw [if_pos ⟨h0, e0⟩]
theorem tm_start (n : Int) (l : List Int) (k : Nat) (h0 : ¬ (0 < k ∧ l.getD (k - 1) 0 = 96)) : Tm n l k = Md.scan n (l.drop k) 0 k := by
  unfold Tm; rw [if_neg h0]

theorem tm_hit (n : Int) (l : List Int) (k q : Nat) (h0 : ¬ (0 < k ∧ l.getD (k - 1) 0 = 96)) (h : k < l.length) (e : l.getD k 0 = 96) (hq : Md.rl 96 (l.drop k) = q - k) (hkq : k ≤ q) (hn : (q : Int) - k = n) : Tm n l k = k := by
  rw [tm_start n l k h0]
  have hp := rl_pos 96 l k _ rfl h e
  exact scan_step_hit n l k _ rfl hp.1 (by omega)
theorem tm_miss (n : Int) (l : List Int) (k q : Nat) (h0 : ¬ (0 < k ∧ l.getD (k - 1) 0 = 96)) (h : k < l.length) (e : l.getD k 0 = 96) (hq : Md.rl 96 (l.drop k) = q - k) (hkq : k ≤ q) (hn : ¬ (q : Int) - k = n) : Tm n l k = Tm n l (k + 1) := by
  rw [tm_start n l k h0, tm_next n l k h e]
  exact scan_step_miss n l k _ rfl (by omega)

set_option maxHeartbeats 800000 in
theorem closingModel_any (a : Option Addr) (cap : Nat) (l : List Int) (n : Int) (w : World) (hB : Bs w a l) (hl : l.length ≤ 4194304) :
    Calls Trym.prog 15 #[.slice a l.length cap, .int .i64 n] w fun e w' => e = .returned (.int .i64 (Md.scan n l 0 0)) ∧ w' = w := by
  rcases hB with rfl | ⟨b, off, rfl, hc⟩
  · simp only [List.length_nil]
    go_enter Trym.func15, Trym.ntmps15
    go_wp2
    go_loop [5] (fun n => n = .int .i64 0) (fun _ => 0)
    case atStart => rfl
    case round =>
      subst hrel
      go_wp2
      go_ret
      exact ⟨rfl, rfl⟩
  · go_enter Trym.func15, Trym.ntmps15
    go_wp2
    go_loop [5, 6] (fun i _ => ∃ k : Nat, k ≤ l.length ∧ i = .int .i64 k ∧ Md.scan n l 0 0 = Tm n l k) (fun i _ => l.length - (intOf i).toNat)
    case atStart => exact ⟨0, Nat.zero_le _, rfl, (tm_zero n l).symm⟩
    case round =>
      obtain ⟨k, hk, rfl, hr⟩ := hrel
      have HR : Hid (Md.scan n l 0 0 = Tm n l k) := hr
      clear hr
      by_cases hlt : k < l.length
      · obtain ⟨x, hx⟩ : ∃ x, x = l.getD k 0 := ⟨_, rfl⟩
        have hcell := hc k hlt
        rw [← hx] at hcell
        have HX : Hid (x = l.getD k 0) := hx
        have HC : Hid (∀ i, i < l.length → w.cell? ⟨b, off + i, none⟩ = some (.int .u8 (l.getD i 0))) := hc
        clear hx hc
        by_cases he : x = 96
        · subst he
          by_cases hk0 : 0 < k
          · obtain ⟨y, hy⟩ : ∃ y, y = l.getD (k - 1) 0 := ⟨_, rfl⟩
            have hcy := HC.out (k - 1) (by omega)
            rw [← hy] at hcy
            have HY : Hid (y = l.getD (k - 1) 0) := hy
            clear hy
            by_cases he2 : y = 96
            · subst he2
              go_wp2
              go_round
              case rel => exact ⟨k + 1, by omega, by go_num, by rw [HR.out]; exact tm_inrun n l k hlt HX.out.symm hk0 HY.out.symm⟩
              case measure => simp [intOf]; omega
            · have hne2 : (y == 96) = false := by simpa using he2
              have H0 : Hid (¬ (0 < k ∧ l.getD (k - 1) 0 = 96)) := fun x => he2 (by rw [HY.out]; exact x.2)
              go_wp2
              go_loop [6] (fun j => ∃ q : Nat, k ≤ q ∧ q ≤ l.length ∧ j = .int .i64 q ∧ Md.rl 96 (l.drop k) = (q - k) + Md.rl 96 (l.drop q)) (fun j => l.length - (intOf j).toNat)
              case atStart => exact ⟨k, Nat.le_refl _, hk, rfl, by omega⟩
              case round =>
                obtain ⟨q, hq1, hq2, rfl, hr⟩ := hrel
                have HQ : Hid (Md.rl 96 (l.drop k) = (q - k) + Md.rl 96 (l.drop q)) := hr
                clear hr
                by_cases hqlt : q < l.length
                · obtain ⟨z, hz⟩ : ∃ z, z = l.getD q 0 := ⟨_, rfl⟩
                  have hcz := HC.out q hqlt
                  rw [← hz] at hcz
                  have HZ : Hid (z = l.getD q 0) := hz
                  clear hz
                  by_cases hez : z = 96
                  · subst hez
                    go_wp2
                    go_round
                    case rel => exact ⟨q + 1, by omega, by omega, by go_num, by rw [HQ.out, rl_step_yes l 96 q hqlt HZ.out.symm]; omega⟩
                    case measure => simp [intOf]; omega
                  · have hnz : (z == 96) = false := by simpa using hez
                    have HE : Hid (Md.rl 96 (l.drop k) = q - k) := by have := HQ.out; rw [rl_step_no l 96 q hqlt (by rw [← HZ.out]; exact hez)] at this; exact this
                    by_cases hn : (q : Int) - k = n
                    · have H1 : Hid (Md.scan n l 0 0 = k) := by have := HR.out; rw [tm_hit n l k q H0.out hlt HX.out.symm HE.out hq1 hn] at this; exact this
                      have hnb : ((q : Int) - k == n) = true := by simpa using hn
                      clear hn
                      go_wp2
                      go_ret
                      exact ⟨ret_int H1.out.symm, rfl⟩
                    · have H1 : Hid (Md.scan n l 0 0 = Tm n l (k + 1)) := by have := HR.out; rw [tm_miss n l k q H0.out hlt HX.out.symm HE.out hq1 hn] at this; exact this
                      have hnb : ((q : Int) - k == n) = false := by simpa using hn
                      clear hn
                      go_wp2
                      go_round
                      case rel => exact ⟨k + 1, by omega, by go_num, H1.out⟩
                      case measure => simp [intOf]; omega
                · have HE : Hid (Md.rl 96 (l.drop k) = q - k) := by have := HQ.out; rw [List.drop_of_length_le (show l.length ≤ q by omega)] at this; exact this
                  by_cases hn : (q : Int) - k = n
                  · have H1 : Hid (Md.scan n l 0 0 = k) := by have := HR.out; rw [tm_hit n l k q H0.out hlt HX.out.symm HE.out hq1 hn] at this; exact this
                    have hnb : ((q : Int) - k == n) = true := by simpa using hn
                    clear hn
                    go_wp2
                    go_ret
                    exact ⟨ret_int H1.out.symm, rfl⟩
                  · have H1 : Hid (Md.scan n l 0 0 = Tm n l (k + 1)) := by have := HR.out; rw [tm_miss n l k q H0.out hlt HX.out.symm HE.out hq1 hn] at this; exact this
                    have hnb : ((q : Int) - k == n) = false := by simpa using hn
                    clear hn
                    go_wp2
                    go_round
                    case rel => exact ⟨k + 1, by omega, by go_num, H1.out⟩
                    case measure => simp [intOf]; omega
          · have H0 : Hid (¬ (0 < k ∧ l.getD (k - 1) 0 = 96)) := fun x => hk0 x.1
            go_wp2
            go_loop [6] (fun j => ∃ q : Nat, k ≤ q ∧ q ≤ l.length ∧ j = .int .i64 q ∧ Md.rl 96 (l.drop k) = (q - k) + Md.rl 96 (l.drop q)) (fun j => l.length - (intOf j).toNat)
            case atStart => exact ⟨k, Nat.le_refl _, hk, rfl, by omega⟩
            case round =>
              obtain ⟨q, hq1, hq2, rfl, hr⟩ := hrel
              have HQ : Hid (Md.rl 96 (l.drop k) = (q - k) + Md.rl 96 (l.drop q)) := hr
              clear hr
              by_cases hqlt : q < l.length
              · obtain ⟨z, hz⟩ : ∃ z, z = l.getD q 0 := ⟨_, rfl⟩
                have hcz := HC.out q hqlt
                rw [← hz] at hcz
                have HZ : Hid (z = l.getD q 0) := hz
                clear hz
                by_cases hez : z = 96
                · subst hez
                  go_wp2
                  go_round
                  case rel => exact ⟨q + 1, by omega, by omega, by go_num, by rw [HQ.out, rl_step_yes l 96 q hqlt HZ.out.symm]; omega⟩
                  case measure => simp [intOf]; omega
                · have hnz : (z == 96) = false := by simpa using hez
                  have HE : Hid (Md.rl 96 (l.drop k) = q - k) := by have := HQ.out; rw [rl_step_no l 96 q hqlt (by rw [← HZ.out]; exact hez)] at this; exact this
                  by_cases hn : (q : Int) - k = n
                  · have H1 : Hid (Md.scan n l 0 0 = k) := by have := HR.out; rw [tm_hit n l k q H0.out hlt HX.out.symm HE.out hq1 hn] at this; exact this
                    have hnb : ((q : Int) - k == n) = true := by simpa using hn
                    clear hn
                    go_wp2
                    go_ret
                    exact ⟨ret_int H1.out.symm, rfl⟩
                  · have H1 : Hid (Md.scan n l 0 0 = Tm n l (k + 1)) := by have := HR.out; rw [tm_miss n l k q H0.out hlt HX.out.symm HE.out hq1 hn] at this; exact this
                    have hnb : ((q : Int) - k == n) = false := by simpa using hn
                    clear hn
                    go_wp2
                    go_round
                    case rel => exact ⟨k + 1, by omega, by go_num, H1.out⟩
                    case measure => simp [intOf]; omega
              · have HE : Hid (Md.rl 96 (l.drop k) = q - k) := by have := HQ.out; rw [List.drop_of_length_le (show l.length ≤ q by omega)] at this; exact this
                by_cases hn : (q : Int) - k = n
                · have H1 : Hid (Md.scan n l 0 0 = k) := by have := HR.out; rw [tm_hit n l k q H0.out hlt HX.out.symm HE.out hq1 hn] at this; exact this
                  have hnb : ((q : Int) - k == n) = true := by simpa using hn
                  clear hn
                  go_wp2
                  go_ret
                  exact ⟨ret_int H1.out.symm, rfl⟩
                · have H1 : Hid (Md.scan n l 0 0 = Tm n l (k + 1)) := by have := HR.out; rw [tm_miss n l k q H0.out hlt HX.out.symm HE.out hq1 hn] at this; exact this
                  have hnb : ((q : Int) - k == n) = false := by simpa using hn
                  clear hn
                  go_wp2
                  go_round
                  case rel => exact ⟨k + 1, by omega, by go_num, H1.out⟩
                  case measure => simp [intOf]; omega
        · have hne : (x == 96) = false := by simpa using he
          go_wp2
          go_round
          case rel => exact ⟨k + 1, by omega, by go_num, by rw [HR.out]; exact tm_other n l k hlt (by rw [← HX.out]; exact he)⟩
          case measure => simp [intOf]; omega
      · go_wp2
        go_ret
        exact ⟨ret_int (by rw [HR.out, tm_end n l k (by omega)]), rfl⟩
end Go.Proofs.Qxb6605370aMods
