/-
  WALKS of seat b6605370aM: runLength, closingRun, zzB1ClosingModel.
-/
import Derived.Test.Qxb6605370aModsRows
import Derived.Test.Qxb6605370aModsPlain
import Derived.WalkKit
import Derived.ProofKit
import Derived.Below
namespace Go.Proofs.Qxb6605370aMods
open Go.RowKit

/-- THE SLICE AT a HOLDS THE BYTES l (an empty one: wherever it points). -/
def Bs (w : World) (a : Option Addr) (l : List Int) : Prop :=
  l = [] ∨ ∃ b off, a = some ⟨b, off, none⟩ ∧ ∀ i, i < l.length → w.cell? ⟨b, off + i, none⟩ = some (.int .u8 (l.getD i 0))

theorem drop_cons (l : List Int) (k : Nat) (h : k < l.length) : l.drop k = l.getD k 0 :: l.drop (k + 1) := by
  rw [List.drop_eq_getElem_cons h, List.getD_eq_getElem?_getD, List.getElem?_eq_getElem h]; rfl

theorem rl_step_yes (l : List Int) (c : Int) (k : Nat) (h : k < l.length) (e : l.getD k 0 = c) : Md.rl c (l.drop k) = Md.rl c (l.drop (k + 1)) + 1 := by
  rw [drop_cons l k h]; simp only [Md.rl, e, if_true]
theorem rl_step_no (l : List Int) (c : Int) (k : Nat) (h : k < l.length) (e : l.getD k 0 ≠ c) : Md.rl c (l.drop k) = 0 := by
  rw [drop_cons l k h]; simp only [Md.rl, e, if_false]

theorem ret_int {k : IntKind} {a b : Int} (h : a = b) : Ending.returned (.int k a) = .returned (.int k b) := by rw [h]

set_option maxHeartbeats 400000 in
theorem runLength_any (a : Option Addr) (cap : Nat) (l : List Int) (c : Int) (w : World) (hB : Bs w a l) (hl : l.length ≤ 4194304) :
    Calls Trym.prog 20 #[.slice a l.length cap, .int .u8 c] w fun e w' => e = .returned (.int .i64 (Md.rl c l)) ∧ w' = w := by
  rcases hB with rfl | ⟨b, off, rfl, hc⟩
  · simp only [List.length_nil]
    go_enter Trym.func20, Trym.ntmps20
    go_wp2
    go_loop [5] (fun n => n = .int .i64 0) (fun _ => 0)
    case atStart => rfl
    case round =>
      subst hrel
      go_wp2
      go_ret
      exact ⟨rfl, rfl⟩
  · go_enter Trym.func20, Trym.ntmps20
    go_wp2
    go_loop [5] (fun n => ∃ k : Nat, k ≤ l.length ∧ n = .int .i64 k ∧ Md.rl c l = k + Md.rl c (l.drop k)) (fun n => l.length - (intOf n).toNat)
    case atStart => exact ⟨0, Nat.zero_le _, rfl, by simp⟩
    case round =>
      obtain ⟨k, hk, rfl, hr⟩ := hrel
      have HR : Hid (Md.rl c l = k + Md.rl c (l.drop k)) := hr
      clear hr
      by_cases hlt : k < l.length
      · obtain ⟨x, hx⟩ : ∃ x, x = l.getD k 0 := ⟨_, rfl⟩
        have hcell := hc k hlt
        rw [← hx] at hcell
        have HX : Hid (x = l.getD k 0) := hx
        clear hx hc
        by_cases he : x = c
        · subst he
          go_wp2
          go_round
          case rel => exact ⟨k + 1, by omega, by go_num, by rw [HR.out, rl_step_yes l x k hlt HX.out.symm]; omega⟩
          case measure => simp [intOf]; omega
        · have hne : (x == c) = false := by simpa using he
          go_wp2
          go_ret
          exact ⟨ret_int (by rw [HR.out, rl_step_no l c k hlt (by rw [← HX.out]; exact he)]; rfl), rfl⟩
      · go_wp2
        go_ret
        have hkk : k = l.length := by omega
        exact ⟨ret_int (by rw [HR.out, List.drop_of_length_le (by omega)]; simp [Md.rl]), rfl⟩

theorem runLength_at (a : Option Addr) (n cap : Nat) (l : List Int) (c : Int) (w : World) (hn : n = l.length) (hB : Bs w a l) (hl : l.length ≤ 4194304) :
    Calls Trym.prog 20 #[.slice a n cap, .int .u8 c] w fun e w' => ∃ m : Nat, m = Md.rl c l ∧ e = .returned (.int .i64 m) ∧ w' = w := by
  subst hn
  exact (runLength_any a cap l c w hB hl).mono fun e w' ⟨h1, h2⟩ => ⟨_, rfl, h1, h2⟩

theorem Bs.drop {w : World} {b off : Nat} {l : List Int} (k : Nat) (h : ∀ i, i < l.length → w.cell? ⟨b, off + i, none⟩ = some (.int .u8 (l.getD i 0))) : Bs w (some ⟨b, off + k, none⟩) (l.drop k) := by
  refine .inr ⟨b, off + k, rfl, fun i hi => ?_⟩
  rw [List.length_drop] at hi
  rw [Nat.add_assoc, h (k + i) (by omega)]
  simp [List.getD_eq_getElem?_getD]

theorem scan_step_other (n : Int) (l : List Int) (k : Nat) (h : k < l.length) (e : l.getD k 0 ≠ 96) : Md.scan n (l.drop k) 0 k = Md.scan n (l.drop (k + 1)) 0 (k + 1) := by
  rw [drop_cons l k h, Md.scan_other _ _ _ _ e]
theorem scan_step_hit (n : Int) (l : List Int) (k m : Nat) (hm : m = Md.rl 96 (l.drop k)) (h0 : 0 < m) (e : (m : Int) = n) : Md.scan n (l.drop k) 0 k = k := by
  rw [Md.scan_run, if_pos (by rw [← hm]; omega)]; omega
theorem scan_step_miss (n : Int) (l : List Int) (k m : Nat) (hm : m = Md.rl 96 (l.drop k)) (e : ¬ (m : Int) = n) : Md.scan n (l.drop k) 0 k = Md.scan n (l.drop (k + m)) 0 (k + m) := by
  rw [Md.scan_run, if_neg (by rw [← hm]; omega), ← hm, List.drop_drop]
theorem rl_pos (c : Int) (l : List Int) (k m : Nat) (hm : m = Md.rl c (l.drop k)) (h : k < l.length) (e : l.getD k 0 = c) : 0 < m ∧ k + m ≤ l.length := by
  rw [rl_step_yes l c k h e] at hm
  have := Md.rl_le c (l.drop (k + 1))
  rw [List.length_drop] at this
  omega

set_option maxHeartbeats 400000 in
theorem closingRun_any (a : Option Addr) (cap : Nat) (l : List Int) (n : Int) (w : World) (hB : Bs w a l) (hl : l.length ≤ 4194304) (hcap : l.length ≤ cap) :
    Calls Trym.prog 19 #[.slice a l.length cap, .int .i64 n] w fun e w' => e = .returned (.int .i64 (Md.scan n l 0 0)) ∧ w' = w := by
  rcases hB with rfl | ⟨b, off, rfl, hc⟩
  · simp only [List.length_nil]
    go_enter Trym.func19, Trym.ntmps19
    go_wp2
    go_loop [5] (fun n => n = .int .i64 0) (fun _ => 0)
    case atStart => rfl
    case round =>
      subst hrel
      go_wp2
      go_ret
      exact ⟨rfl, rfl⟩
  · go_enter Trym.func19, Trym.ntmps19
    go_wp2
    go_loop [5, 6] (fun i _ => ∃ k : Nat, k ≤ l.length ∧ i = .int .i64 k ∧ Md.scan n l 0 0 = Md.scan n (l.drop k) 0 k) (fun i _ => l.length - (intOf i).toNat)
    case atStart => exact ⟨0, Nat.zero_le _, rfl, by simp⟩
    case round =>
      obtain ⟨k, hk, rfl, hr⟩ := hrel
      have HR : Hid (Md.scan n l 0 0 = Md.scan n (l.drop k) 0 k) := hr
      clear hr
      by_cases hlt : k < l.length
      · obtain ⟨x, hx⟩ : ∃ x, x = l.getD k 0 := ⟨_, rfl⟩
        have hcell := hc k hlt
        rw [← hx] at hcell
        have HX : Hid (x = l.getD k 0) := hx
        have HB : Hid (Bs w (some ⟨b, off + k, none⟩) (l.drop k)) := Bs.drop k hc
        clear hx hc
        by_cases he : x = 96
        · subst he
          go_wp2_with fail
          refine (runLength_at _ _ _ (l.drop k) 96 _ (by simp) HB.out (by simp; omega)).mono ?_
          rintro e w' ⟨m, hm, rfl, rfl⟩
          have HM : Hid (m = Md.rl 96 (l.drop k)) := hm
          clear hm
          obtain ⟨hm0, hm1⟩ := rl_pos 96 l k m HM.out hlt HX.out.symm
          by_cases heq : (m : Int) = n
          · have H1 : Hid (Md.scan n l 0 0 = k) := by have := HR.out; rw [scan_step_hit n l k m HM.out hm0 heq] at this; exact this
            subst heq
            go_wp2
            go_ret
            exact ⟨ret_int H1.out.symm, rfl⟩
          · have H1 : Hid (Md.scan n l 0 0 = Md.scan n (l.drop (k + m)) 0 (k + m)) := by have := HR.out; rw [scan_step_miss n l k m HM.out heq] at this; exact this
            go_wp2
            go_round
            case rel => exact ⟨k + m, by omega, by go_num, H1.out⟩
            case measure => simp [intOf]; omega
        · have H1 : Hid (Md.scan n l 0 0 = Md.scan n (l.drop (k + 1)) 0 (k + 1)) := by have := HR.out; rw [scan_step_other n l k hlt (by rw [← HX.out]; exact he)] at this; exact this
          have hne : (x == 96) = false := by simpa using he
          go_wp2
          go_round
          case rel => exact ⟨k + 1, by omega, by go_num, H1.out⟩
          case measure => simp [intOf]; omega
      · go_wp2
        go_ret
        exact ⟨ret_int (by rw [HR.out, List.drop_of_length_le (by omega)]; simp [Md.scan]), rfl⟩
end Go.Proofs.Qxb6605370aMods
