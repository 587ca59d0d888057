/-
  SEAT b6606062aM: zzB1IsDigit, zzB1PlaceValue walked.
-/
import Derived.Test.Qxb6606062aModsSign
import Derived.Test.Qxb6606062aModsTable
namespace Go.Proofs.Qxb6606062aMods
open Go.RowKit

theorem isDigit_yes (c : Int) (h1 : 48 ≤ c) (h2 : c ≤ 57) (w : World) : Calls Trym.prog 18 #[.int .u8 c] w fun e w' => e = .returned (.bool true) ∧ w = w' := by
  go_enter Trym.func18, Trym.ntmps18
  go_wp2
  go_ret
  exact ⟨ret_bool (by first | rfl | simp [h2]), rfl⟩
theorem isDigit_no (c : Int) (h : ¬ (48 ≤ c ∧ c ≤ 57)) (w : World) : Calls Trym.prog 18 #[.int .u8 c] w fun e w' => e = .returned (.bool false) ∧ w = w' := by
  by_cases h1 : 48 ≤ c
  · have h2 : ¬ c ≤ 57 := fun h2 => h ⟨h1, h2⟩
    clear h
    go_enter Trym.func18, Trym.ntmps18
    go_wp2
    go_ret
    exact ⟨ret_bool (by first | rfl | simp [h2]), rfl⟩
  · clear h
    go_enter Trym.func18, Trym.ntmps18
    go_wp2
    go_ret
    exact ⟨rfl, rfl⟩

theorem cnt_drop_le (l : List Int) (m : Nat) : Nu.cnt (l.drop m) ≤ Nu.cnt l := by
  induction l generalizing m with
  | nil => simp
  | cons c r ih =>
    match m with
    | 0 => simp
    | m + 1 =>
      rw [List.drop_succ_cons]
      have := ih m
      simp only [Nu.cnt]
      split <;> omega

/-- THE BYTES FROM k TO hi. -/
def seg (l : List Int) (k hi : Nat) : List Int := (l.take hi).drop k

theorem seg_end (l : List Int) (hi : Nat) : seg l hi hi = [] := by simp [seg]
theorem seg_cons (l : List Int) (q hi : Nat) (h1 : q < hi) (h2 : hi ≤ l.length) : seg l q hi = l.getD q 0 :: seg l (q + 1) hi := by
  unfold seg
  rw [drop_cons (l.take hi) q (by simp; omega)]
  congr 1
  simp [List.getD_eq_getElem?_getD, h1]
theorem seg_cnt (l : List Int) (q lo hi : Nat) (h : lo ≤ q) : Nu.cnt (seg l q hi) ≤ Nu.cnt (seg l lo hi) := by
  have : seg l q hi = (seg l lo hi).drop (q - lo) := by unfold seg; rw [List.drop_drop]; congr 1; omega
  rw [this]; exact cnt_drop_le _ _

set_option maxHeartbeats 1600000 in
theorem placeValue_any (a : Option Addr) (n cap lo hi : Nat) (l : List Int) (w : World) (hn : n = l.length) (hB : Bs w a l) (hl : l.length ≤ 4194304) (hlh : lo ≤ hi) (hhi : hi ≤ l.length) (h19 : Nu.cnt (seg l lo hi) ≤ 19) :
    Calls Trym.prog 19 #[.slice a n cap, .int .i64 lo, .int .i64 hi] w fun e w' => e = .returned (.int .u64 (Nu.pv (seg l lo hi))) ∧ w = w' := by
  have hn1 : n ≤ l.length := by omega
  have hn2 : l.length ≤ n := by omega
  clear hn
  have H19 : Hid (Nu.cnt (seg l lo hi) ≤ 19) := h19
  clear h19
  go_enter Trym.func19, Trym.ntmps19
  go_wp2
  go_loop [7, 8, 9] (fun vv pp jj => ∃ (k : Nat) (V P J : Int), lo ≤ k ∧ k ≤ hi ∧ J ≤ (k : Int) - 1 ∧ (k : Int) - 1 ≤ J ∧ vv = .int .u64 V ∧ pp = .int .u64 P ∧ jj = .int .i64 J ∧ V = Nu.pv (seg l k hi) ∧ P = 10 ^ Nu.cnt (seg l k hi)) (fun _ _ j => (intOf j + 1).toNat)
  case atStart => exact ⟨hi, 0, 1, (hi : Int) - 1, hlh, Nat.le_refl _, by omega, by omega, rfl, rfl, rfl, by rw [seg_end]; rfl, by rw [seg_end]; rfl⟩
  case round =>
    obtain ⟨k, V, P, J, hk1, hk2, hJ1, hJ2, rfl, rfl, rfl, hV, hP⟩ := hrel
    have HV : Hid (V = Nu.pv (seg l k hi)) := hV
    have HP : Hid (P = 10 ^ Nu.cnt (seg l k hi)) := hP
    clear hV hP
    by_cases hlt : lo < k
    · obtain ⟨q, rfl⟩ : ∃ q, k = q + 1 := ⟨k - 1, by omega⟩
      obtain rfl : J = (q : Int) := by omega
      obtain ⟨b, off, rfl, hc⟩ : ∃ b off, a = some ⟨b, off, none⟩ ∧ ∀ i, i < l.length → w.cell? ⟨b, off + i, none⟩ = some (.int .u8 (l.getD i 0)) := by
        rcases hB with rfl | h
        · simp at hhi; omega
        · exact h
      obtain ⟨x, hx⟩ : ∃ x, x = l.getD q 0 := ⟨_, rfl⟩
      have hcx := hc q (by omega)
      rw [← hx] at hcx
      have HS : Hid (seg l q hi = x :: seg l (q + 1) hi) := by have := seg_cons l q hi (by omega) hhi; rw [← hx] at this; exact this
      clear hc hx hB
      by_cases hd : 48 ≤ x ∧ x ≤ 57
      · have hcn : Nu.cnt (seg l (q + 1) hi) ≤ 18 := by
          have h1 := seg_cnt l q lo hi (by omega)
          rw [HS.out, Nu.cnt_cons x _ hd.1 hd.2] at h1
          have := H19.out
          omega
        have hbd := Nu.pv_bd (seg l (q + 1) hi)
        rw [← HV.out, ← HP.out] at hbd
        have hP0 : 0 < P := by rw [HP.out]; exact Nu.pow_pos10 _
        have hP1 : P ≤ 1000000000000000000 := by
          have h1 := Nu.pow_mono _ _ hcn
          have h2 : (10 : Int) ^ 18 = 1000000000000000000 := by decide
          rw [← HP.out, h2] at h1
          exact h1
        obtain ⟨hV0, hV1⟩ := hbd
        obtain ⟨hm1, hm2⟩ := Nu.mul_bd x P hd.1 hd.2 hP0
        have HV1 : Hid (V + (x - 48) * P = Nu.pv (seg l q hi)) := by
          show V + (x - 48) * P = Nu.pv (seg l q hi)
          rw [HS.out, Nu.pv_cons x _ hd.1 hd.2, ← HV.out, ← HP.out]; omega
        have HP1 : Hid (P * 10 = 10 ^ Nu.cnt (seg l q hi)) := by
          show P * 10 = 10 ^ Nu.cnt (seg l q hi)
          rw [HS.out, Nu.cnt_cons x _ hd.1 hd.2, Int.pow_succ, ← HP.out]
        clear hcn
        obtain ⟨hd1, hd2⟩ := hd
        go_wp2_with (go_at_call 18; refine (isDigit_yes _ hd1 hd2 _).mono ?_; rintro e w'' ⟨rfl, rfl⟩)
        go_round
        case rel => exact ⟨q, V + (x - 48) * P, P * 10, (q : Int) - 1, by omega, by omega, by omega, by omega, by go_num, by go_num, by go_num, HV1.out, HP1.out⟩
        case measure => simp [intOf]
      · have HV1 : Hid (V = Nu.pv (seg l q hi)) := by show V = Nu.pv (seg l q hi); rw [HS.out, Nu.pv_skip x _ hd]; exact HV.out
        have HP1 : Hid (P = 10 ^ Nu.cnt (seg l q hi)) := by show P = 10 ^ Nu.cnt (seg l q hi); rw [HS.out, Nu.cnt_skip x _ hd]; exact HP.out
        have HDD : Hid (¬ (48 ≤ x ∧ x ≤ 57)) := hd
        clear hd
        go_wp2_with (go_at_call 18; refine (isDigit_no _ HDD.out _).mono ?_; rintro e w'' ⟨rfl, rfl⟩)
        go_round
        case rel => exact ⟨q, V, P, (q : Int) - 1, by omega, by omega, by omega, by omega, by go_num, by go_num, by go_num, HV1.out, HP1.out⟩
        case measure => simp [intOf]
    · obtain rfl : k = lo := by omega
      go_wp2
      go_ret
      exact ⟨ret_int HV.out, rfl⟩

theorem placeValue_is (a : Option Addr) (n cap lo hi : Nat) (L H V : Int) (l : List Int) (w : World) (hV : Nu.pv (seg l lo hi) = V) (hL : L = (lo : Int)) (hH : H = (hi : Int)) (hn : n = l.length) (hB : Bs w a l) (hl : l.length ≤ 4194304) (hlh : lo ≤ hi) (hhi : hi ≤ l.length) (h19 : Nu.cnt (seg l lo hi) ≤ 19) :
    Calls Trym.prog 19 #[.slice a n cap, .int .i64 L, .int .i64 H] w fun e w' => e = .returned (.int .u64 V) ∧ w = w' := by
  subst hL hH
  rw [← hV]
  exact placeValue_any a n cap lo hi l w hn hB hl hlh hhi h19
end Go.Proofs.Qxb6606062aMods
