/-
  WALK of seat b6605370aM: zzB1LongestTickRun.
-/
import Derived.Test.Qxb6605370aModsBal
namespace Go.Proofs.Qxb6605370aMods
open Go.RowKit

theorem lt_yes (l : List Int) (k cur best : Nat) (h : k < l.length) (e : l.getD k 0 = 96) (hc : best < cur + 1) : Md.lt (l.drop k) cur best = Md.lt (l.drop (k + 1)) (cur + 1) (cur + 1) := by
  rw [drop_cons l k h, e]; simp [Md.lt, hc]
theorem lt_same (l : List Int) (k cur best : Nat) (h : k < l.length) (e : l.getD k 0 = 96) (hc : ¬ best < cur + 1) : Md.lt (l.drop k) cur best = Md.lt (l.drop (k + 1)) (cur + 1) best := by
  rw [drop_cons l k h, e]; simp [Md.lt, hc]
theorem lt_no (l : List Int) (k cur best : Nat) (h : k < l.length) (e : l.getD k 0 ≠ 96) : Md.lt (l.drop k) cur best = Md.lt (l.drop (k + 1)) 0 best := by
  rw [drop_cons l k h]; simp only [Md.lt, e, if_false]

set_option maxHeartbeats 800000 in
theorem ticks_any (a : Option Addr) (cap : Nat) (l : List Int) (w : World) (hB : Bs w a l) (hl : l.length ≤ 4194304) :
    Calls Trym.prog 12 #[.slice a l.length cap] w fun e w' => e = .returned (.int .i64 (Md.lt l 0 0)) ∧ w = w' := by
  rcases hB with rfl | ⟨b, off, rfl, hc⟩
  · simp only [List.length_nil]
    go_enter Trym.func12, Trym.ntmps12
    go_wp2
    go_loop [3, 4, 5] (fun b _ n => b = .int .i64 0 ∧ n = .int .i64 0) (fun _ _ _ => 0)
    case atStart => exact ⟨rfl, rfl⟩
    case round =>
      obtain ⟨rfl, rfl⟩ := hrel
      go_wp2
      go_ret
      exact ⟨rfl, rfl⟩
  · go_enter Trym.func12, Trym.ntmps12
    go_wp2
    go_loop [3, 4, 5] (fun b c i => ∃ k cur best : Nat, k ≤ l.length ∧ cur ≤ k ∧ best ≤ k ∧ b = .int .i64 best ∧ c = .int .i64 cur ∧ i = .int .i64 k ∧ Md.lt l 0 0 = Md.lt (l.drop k) cur best) (fun _ _ i => l.length - (intOf i).toNat)
    case atStart => exact ⟨0, 0, 0, Nat.zero_le _, Nat.le_refl _, Nat.le_refl _, rfl, rfl, rfl, by simp⟩
    case round =>
      obtain ⟨k, cur, best, hk, hc1, hb1, rfl, rfl, rfl, hr⟩ := hrel
      have HR : Hid (Md.lt l 0 0 = Md.lt (l.drop k) cur best) := hr
      clear hr
      by_cases hlt : k < l.length
      · obtain ⟨x, hx⟩ : ∃ x, x = l.getD k 0 := ⟨_, rfl⟩
        have hcell := hc k hlt
        rw [← hx] at hcell
        have HX : Hid (x = l.getD k 0) := hx
        clear hx hc
        by_cases he : x = 96
        · subst he
          by_cases hgt : best < cur + 1
          · have H1 : Hid (Md.lt l 0 0 = Md.lt (l.drop (k + 1)) (cur + 1) (cur + 1)) := by have := HR.out; rw [lt_yes l k cur best hlt HX.out.symm hgt] at this; exact this
            go_wp2
            go_round
            case rel => exact ⟨k + 1, cur + 1, cur + 1, by omega, by omega, by omega, by go_num, by go_num, by go_num, H1.out⟩
            case measure => simp [intOf]; omega
          · have H1 : Hid (Md.lt l 0 0 = Md.lt (l.drop (k + 1)) (cur + 1) best) := by have := HR.out; rw [lt_same l k cur best hlt HX.out.symm hgt] at this; exact this
            go_wp2
            go_round
            case rel => exact ⟨k + 1, cur + 1, best, by omega, by omega, by omega, by go_num, by go_num, by go_num, H1.out⟩
            case measure => simp [intOf]; omega
        · have hne : (x == 96) = false := by simpa using he
          have H1 : Hid (Md.lt l 0 0 = Md.lt (l.drop (k + 1)) 0 best) := by have := HR.out; rw [lt_no l k cur best hlt (by rw [← HX.out]; exact he)] at this; exact this
          go_wp2
          go_round
          case rel => exact ⟨k + 1, 0, best, by omega, by omega, by omega, by go_num, by go_num, by go_num, H1.out⟩
          case measure => simp [intOf]; omega
      · go_wp2
        go_ret
        exact ⟨ret_int (by rw [HR.out, List.drop_of_length_le (by omega)]; rfl), rfl⟩

theorem ticks_is (a : Option Addr) (n cap q : Nat) (l : List Int) (w : World) (hq : Md.lt l 0 0 = q) (hn : n = l.length) (hB : Bs w a l) (hl : l.length ≤ 4194304) :
    Calls Trym.prog 12 #[.slice a n cap] w fun e w' => e = .returned (.int .i64 q) ∧ w = w' := by
  subst hn
  rw [← hq]
  exact ticks_any a cap l w hB hl

theorem balanced_is (a : Option Addr) (n cap : Nat) (p : Bool) (l : List Int) (w : World) (hp : Md.am l 0 0 0 0 0 = p) (hn : n = l.length) (hB : Bs w a l) (hl : l.length ≤ 4194304) (hcap : n ≤ cap) :
    Calls Trym.prog 17 #[.slice a n cap] w fun e w' => e = .returned (.bool p) ∧ w = w' := by
  subst hn
  rw [← hp]
  exact (balanced_any a cap l w hB hl hcap).mono fun _ _ ⟨h1, h2⟩ => ⟨h1, h2.symm⟩

theorem balanced_own (B g m cap : Nat) (p : Bool) (l : List Int) (w : World) (ho : w.ownsRow B 5 1 (.slice (some ⟨g, 0, none⟩) m cap) m (bv l)) (hp : Md.am l 0 0 0 0 0 = p) (hl : l.length ≤ 4194304) :
    Calls Trym.prog 17 #[.slice (some ⟨g, 0, none⟩) m cap] w fun e w' => e = .returned (.bool p) ∧ w = w' := by
  obtain ⟨h1, h2, h3⟩ := owns_Bs ho
  exact balanced_is _ m cap p l w hp h1 h3 hl h2
end Go.Proofs.Qxb6605370aMods
