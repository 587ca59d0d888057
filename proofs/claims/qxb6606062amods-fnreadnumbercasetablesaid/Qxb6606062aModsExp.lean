/-
  SEAT b6606062aM: exponentOf walked.
-/
import Derived.Test.Qxb6606062aModsBase
namespace Go.Proofs.Qxb6606062aMods
open Go.RowKit

theorem ev_yes (l : List Int) (k : Nat) (e x : Int) (h : k < l.length) (hx : x = l.getD k 0) (h1 : 48 ≤ x) (h2 : x ≤ 57) (he : e < 1099511627776) : Nu.ev (l.drop k) e = Nu.ev (l.drop (k + 1)) (e * 10 + (x - 48)) := by
  rw [drop_cons l k h, ← hx]
  conv => lhs; unfold Nu.ev
  rw [if_pos ⟨h1, h2⟩, if_pos he]
theorem ev_still (l : List Int) (k : Nat) (e x : Int) (h : k < l.length) (hx : x = l.getD k 0) (h1 : 48 ≤ x) (h2 : x ≤ 57) (he : ¬ e < 1099511627776) : Nu.ev (l.drop k) e = Nu.ev (l.drop (k + 1)) e := by
  rw [drop_cons l k h, ← hx]
  conv => lhs; unfold Nu.ev
  rw [if_pos ⟨h1, h2⟩, if_neg he]
theorem ev_no (l : List Int) (k : Nat) (e x : Int) (h : k < l.length) (hx : x = l.getD k 0) (h1 : ¬ (48 ≤ x ∧ x ≤ 57)) : Nu.ev (l.drop k) e = e := by
  rw [drop_cons l k h, ← hx]
  unfold Nu.ev
  rw [if_neg h1]
theorem dn_yes (l : List Int) (k : Nat) (x : Int) (h : k < l.length) (hx : x = l.getD k 0) (h1 : 48 ≤ x) (h2 : x ≤ 57) : Nu.dn (l.drop k) = Nu.dn (l.drop (k + 1)) + 1 := by
  rw [drop_cons l k h, ← hx]
  conv => lhs; unfold Nu.dn
  rw [if_pos ⟨h1, h2⟩]
theorem dn_no (l : List Int) (k : Nat) (x : Int) (h : k < l.length) (hx : x = l.getD k 0) (h1 : ¬ (48 ≤ x ∧ x ≤ 57)) : Nu.dn (l.drop k) = 0 := by
  rw [drop_cons l k h, ← hx]
  unfold Nu.dn
  rw [if_neg h1]
theorem ret_pair {a b c d : Int} (h1 : a = c) (h2 : b = d) : Ending.returned (.tuple #[.int .i64 a, .int .i64 b]) = .returned (.tuple #[.int .i64 c, .int .i64 d]) := by rw [h1, h2]

set_option maxHeartbeats 1600000 in
theorem exponentOf_any (a : Option Addr) (cap : Nat) (l : List Int) (w : World) (hB : Bs w a l) (hl : l.length ≤ 4194304) :
    Calls Trym.prog 17 #[.slice a l.length cap] w fun e w' => e = .returned (.tuple #[.int .i64 (Nu.exE l), .int .i64 (Nu.exL l)]) ∧ w = w' := by
  rcases hB with rfl | ⟨b, off, rfl, hc⟩
  · simp only [List.length_nil]
    go_enter Trym.func17, Trym.ntmps17
    go_wp2
    go_loop [2, 5] (fun s n => s = .int .i64 0 ∧ n = .int .i64 0) (fun _ _ => 0)
    case atStart => exact ⟨rfl, rfl⟩
    case round =>
      obtain ⟨rfl, rfl⟩ := hrel
      go_wp2
      go_ret2
      exact ⟨rfl, rfl⟩
  · have HC : Hid (∀ i, i < l.length → w.cell? ⟨b, off + i, none⟩ = some (.int .u8 (l.getD i 0))) := hc
    clear hc
    by_cases h0 : 0 < l.length
    · obtain ⟨x, hx⟩ : ∃ x, x = l.getD 0 0 := ⟨_, rfl⟩
      have hcell := HC.out 0 h0
      rw [← hx, Nat.add_zero] at hcell
      have HD : Hid (l = x :: l.drop 1) := by have := drop_cons l 0 h0; rw [← hx] at this; exact this
      clear hx
      have hrE : ∀ E : Int, E = Nu.exE l → E = Nu.exE (x :: l.drop 1) := fun E h => by rw [← HD.out]; exact h
      have hxe : Nu.exE l = Nu.exE (x :: l.drop 1) := by rw [← HD.out]
      have hxl : Nu.exL l = Nu.exL (x :: l.drop 1) := by rw [← HD.out]
      have hself : x :: l.drop 1 = l := HD.out.symm
      clear hrE
      by_cases h45 : x = 45
      · subst h45
        obtain ⟨E, hE⟩ : ∃ E, E = Nu.ev (l.drop 1) 0 := ⟨_, rfl⟩
        obtain ⟨L, hL⟩ : ∃ L, L = 1 + Nu.dn (l.drop 1) := ⟨_, rfl⟩
        have HE0 : Hid (E = Nu.ev (l.drop 1) 0) := hE
        have HL0 : Hid (L = 1 + Nu.dn (l.drop 1)) := hL
        have HX : Hid (Nu.exE l = -E) := by show Nu.exE l = -E; rw [hxe, hE]; exact Nu.exE_minus _
        have HXL : Hid (Nu.exL l = L) := by show Nu.exL l = L; rw [hxl, hL]; exact Nu.exL_minus _
        clear hE hL hxe hxl hself HD
        go_enter Trym.func17, Trym.ntmps17
        go_wp2
        go_loop [2, 5] (fun ee i => ∃ (k : Nat) (e : Int), k ≤ l.length ∧ 0 ≤ e ∧ e ≤ 10995116277769 ∧ ee = .int .i64 e ∧ i = .int .i64 k ∧ E = Nu.ev (l.drop k) e ∧ L = k + Nu.dn (l.drop k)) (fun _ i => l.length - (intOf i).toNat)
        case atStart => exact ⟨1, 0, by omega, by omega, by omega, rfl, rfl, HE0.out, HL0.out⟩
        case round =>
          obtain ⟨k, e, hk, he0, he1, rfl, rfl, hE, hL⟩ := hrel
          have HE : Hid (E = Nu.ev (l.drop k) e) := hE
          have HL : Hid (L = k + Nu.dn (l.drop k)) := hL
          clear hE hL
          by_cases hlt : k < l.length
          · obtain ⟨y, hy⟩ : ∃ y, y = l.getD k 0 := ⟨_, rfl⟩
            have hcy := HC.out k hlt
            rw [← hy] at hcy
            have HY : Hid (y = l.getD k 0) := hy
            clear hy
            by_cases hlo : 48 ≤ y
            · by_cases hhi : y ≤ 57
              · have HL1 : Hid (L = (k + 1) + Nu.dn (l.drop (k + 1))) := by have := HL.out; rw [dn_yes l k y hlt HY.out hlo hhi] at this; show L = (k + 1) + Nu.dn (l.drop (k + 1)); omega
                by_cases hbig : e < 1099511627776
                · have HE1 : Hid (E = Nu.ev (l.drop (k + 1)) (e * 10 + (y - 48))) := by have := HE.out; rw [ev_yes l k e y hlt HY.out hlo hhi hbig] at this; exact this
                  go_wp2
                  go_round
                  case rel => exact ⟨k + 1, e * 10 + (y - 48), by omega, by omega, by omega, by go_num, by go_num, HE1.out, HL1.out⟩
                  case measure => simp [intOf]; omega
                · have HE1 : Hid (E = Nu.ev (l.drop (k + 1)) e) := by have := HE.out; rw [ev_still l k e y hlt HY.out hlo hhi hbig] at this; exact this
                  go_wp2
                  go_round
                  case rel => exact ⟨k + 1, e, by omega, by omega, by omega, by go_num, by go_num, HE1.out, HL1.out⟩
                  case measure => simp [intOf]; omega
              · have HE1 : Hid (E = e) := by have := HE.out; rw [ev_no l k e y hlt HY.out (fun h => hhi h.2)] at this; exact this
                have HL1 : Hid (L = k) := by have := HL.out; rw [dn_no l k y hlt HY.out (fun h => hhi h.2)] at this; exact this
                go_wp2
                go_ret2
                exact ⟨ret_pair (by rw [HX.out, HE1.out]) (by rw [HXL.out, HL1.out]), rfl⟩
            · have HE1 : Hid (E = e) := by have := HE.out; rw [ev_no l k e y hlt HY.out (fun h => hlo h.1)] at this; exact this
              have HL1 : Hid (L = k) := by have := HL.out; rw [dn_no l k y hlt HY.out (fun h => hlo h.1)] at this; exact this
              go_wp2
              go_ret2
              exact ⟨ret_pair (by rw [HX.out, HE1.out]) (by rw [HXL.out, HL1.out]), rfl⟩
          · have HE1 : Hid (E = e) := by have := HE.out; rw [List.drop_of_length_le (by omega)] at this; exact this
            have HL1 : Hid (L = k) := by have := HL.out; rw [List.drop_of_length_le (show l.length ≤ k by omega)] at this; exact this
            go_wp2
            go_ret2
            exact ⟨ret_pair (by rw [HX.out, HE1.out]) (by rw [HXL.out, HL1.out]), rfl⟩
      · have hn45 : (x == 45) = false := by simpa using h45
        by_cases h43 : x = 43
        · subst h43
          obtain ⟨E, hE⟩ : ∃ E, E = Nu.ev (l.drop 1) 0 := ⟨_, rfl⟩
          obtain ⟨L, hL⟩ : ∃ L, L = 1 + Nu.dn (l.drop 1) := ⟨_, rfl⟩
          have HE0 : Hid (E = Nu.ev (l.drop 1) 0) := hE
          have HL0 : Hid (L = 1 + Nu.dn (l.drop 1)) := hL
          have HX : Hid (Nu.exE l = E) := by show Nu.exE l = E; rw [hxe, hE]; exact Nu.exE_plus _
          have HXL : Hid (Nu.exL l = L) := by show Nu.exL l = L; rw [hxl, hL]; exact Nu.exL_plus _
          clear hE hL hxe hxl hself HD
          go_enter Trym.func17, Trym.ntmps17
          go_wp2
          go_loop [2, 5] (fun ee i => ∃ (k : Nat) (e : Int), k ≤ l.length ∧ 0 ≤ e ∧ e ≤ 10995116277769 ∧ ee = .int .i64 e ∧ i = .int .i64 k ∧ E = Nu.ev (l.drop k) e ∧ L = k + Nu.dn (l.drop k)) (fun _ i => l.length - (intOf i).toNat)
          case atStart => exact ⟨1, 0, by omega, by omega, by omega, rfl, rfl, HE0.out, HL0.out⟩
          case round =>
            obtain ⟨k, e, hk, he0, he1, rfl, rfl, hE, hL⟩ := hrel
            have HE : Hid (E = Nu.ev (l.drop k) e) := hE
            have HL : Hid (L = k + Nu.dn (l.drop k)) := hL
            clear hE hL
            by_cases hlt : k < l.length
            · obtain ⟨y, hy⟩ : ∃ y, y = l.getD k 0 := ⟨_, rfl⟩
              have hcy := HC.out k hlt
              rw [← hy] at hcy
              have HY : Hid (y = l.getD k 0) := hy
              clear hy
              by_cases hlo : 48 ≤ y
              · by_cases hhi : y ≤ 57
                · have HL1 : Hid (L = (k + 1) + Nu.dn (l.drop (k + 1))) := by have := HL.out; rw [dn_yes l k y hlt HY.out hlo hhi] at this; show L = (k + 1) + Nu.dn (l.drop (k + 1)); omega
                  by_cases hbig : e < 1099511627776
                  · have HE1 : Hid (E = Nu.ev (l.drop (k + 1)) (e * 10 + (y - 48))) := by have := HE.out; rw [ev_yes l k e y hlt HY.out hlo hhi hbig] at this; exact this
                    go_wp2
                    go_round
                    case rel => exact ⟨k + 1, e * 10 + (y - 48), by omega, by omega, by omega, by go_num, by go_num, HE1.out, HL1.out⟩
                    case measure => simp [intOf]; omega
                  · have HE1 : Hid (E = Nu.ev (l.drop (k + 1)) e) := by have := HE.out; rw [ev_still l k e y hlt HY.out hlo hhi hbig] at this; exact this
                    go_wp2
                    go_round
                    case rel => exact ⟨k + 1, e, by omega, by omega, by omega, by go_num, by go_num, HE1.out, HL1.out⟩
                    case measure => simp [intOf]; omega
                · have HE1 : Hid (E = e) := by have := HE.out; rw [ev_no l k e y hlt HY.out (fun h => hhi h.2)] at this; exact this
                  have HL1 : Hid (L = k) := by have := HL.out; rw [dn_no l k y hlt HY.out (fun h => hhi h.2)] at this; exact this
                  go_wp2
                  go_ret2
                  exact ⟨ret_pair (by rw [HX.out, HE1.out]) (by rw [HXL.out, HL1.out]), rfl⟩
              · have HE1 : Hid (E = e) := by have := HE.out; rw [ev_no l k e y hlt HY.out (fun h => hlo h.1)] at this; exact this
                have HL1 : Hid (L = k) := by have := HL.out; rw [dn_no l k y hlt HY.out (fun h => hlo h.1)] at this; exact this
                go_wp2
                go_ret2
                exact ⟨ret_pair (by rw [HX.out, HE1.out]) (by rw [HXL.out, HL1.out]), rfl⟩
            · have HE1 : Hid (E = e) := by have := HE.out; rw [List.drop_of_length_le (by omega)] at this; exact this
              have HL1 : Hid (L = k) := by have := HL.out; rw [List.drop_of_length_le (show l.length ≤ k by omega)] at this; exact this
              go_wp2
              go_ret2
              exact ⟨ret_pair (by rw [HX.out, HE1.out]) (by rw [HXL.out, HL1.out]), rfl⟩
        · have hn43 : (x == 43) = false := by simpa using h43
          obtain ⟨E, hE⟩ : ∃ E, E = Nu.ev (l.drop 0) 0 := ⟨_, rfl⟩
          obtain ⟨L, hL⟩ : ∃ L, L = 0 + Nu.dn (l.drop 0) := ⟨_, rfl⟩
          have HE0 : Hid (E = Nu.ev (l.drop 0) 0) := hE
          have HL0 : Hid (L = 0 + Nu.dn (l.drop 0)) := hL
          have hun : Nu.unsigned l := fun c r h => by rw [← hself] at h; rw [← (List.cons.inj h).1]; exact ⟨h45, h43⟩
          have HX : Hid (Nu.exE l = E) := by show Nu.exE l = E; rw [hE]; exact Nu.exE_unsigned _ hun
          have HXL : Hid (Nu.exL l = L) := by show Nu.exL l = L; rw [hL, Nat.zero_add]; exact Nu.exL_unsigned _ hun
          clear hE hL hxe hxl hself HD hun
          go_enter Trym.func17, Trym.ntmps17
          go_wp2
          go_loop [2, 5] (fun ee i => ∃ (k : Nat) (e : Int), k ≤ l.length ∧ 0 ≤ e ∧ e ≤ 10995116277769 ∧ ee = .int .i64 e ∧ i = .int .i64 k ∧ E = Nu.ev (l.drop k) e ∧ L = k + Nu.dn (l.drop k)) (fun _ i => l.length - (intOf i).toNat)
          case atStart => exact ⟨0, 0, by omega, by omega, by omega, rfl, rfl, HE0.out, HL0.out⟩
          case round =>
            obtain ⟨k, e, hk, he0, he1, rfl, rfl, hE, hL⟩ := hrel
            have HE : Hid (E = Nu.ev (l.drop k) e) := hE
            have HL : Hid (L = k + Nu.dn (l.drop k)) := hL
            clear hE hL
            by_cases hlt : k < l.length
            · obtain ⟨y, hy⟩ : ∃ y, y = l.getD k 0 := ⟨_, rfl⟩
              have hcy := HC.out k hlt
              rw [← hy] at hcy
              have HY : Hid (y = l.getD k 0) := hy
              clear hy
              by_cases hlo : 48 ≤ y
              · by_cases hhi : y ≤ 57
                · have HL1 : Hid (L = (k + 1) + Nu.dn (l.drop (k + 1))) := by have := HL.out; rw [dn_yes l k y hlt HY.out hlo hhi] at this; show L = (k + 1) + Nu.dn (l.drop (k + 1)); omega
                  by_cases hbig : e < 1099511627776
                  · have HE1 : Hid (E = Nu.ev (l.drop (k + 1)) (e * 10 + (y - 48))) := by have := HE.out; rw [ev_yes l k e y hlt HY.out hlo hhi hbig] at this; exact this
                    go_wp2
                    go_round
                    case rel => exact ⟨k + 1, e * 10 + (y - 48), by omega, by omega, by omega, by go_num, by go_num, HE1.out, HL1.out⟩
                    case measure => simp [intOf]; omega
                  · have HE1 : Hid (E = Nu.ev (l.drop (k + 1)) e) := by have := HE.out; rw [ev_still l k e y hlt HY.out hlo hhi hbig] at this; exact this
                    go_wp2
                    go_round
                    case rel => exact ⟨k + 1, e, by omega, by omega, by omega, by go_num, by go_num, HE1.out, HL1.out⟩
                    case measure => simp [intOf]; omega
                · have HE1 : Hid (E = e) := by have := HE.out; rw [ev_no l k e y hlt HY.out (fun h => hhi h.2)] at this; exact this
                  have HL1 : Hid (L = k) := by have := HL.out; rw [dn_no l k y hlt HY.out (fun h => hhi h.2)] at this; exact this
                  go_wp2
                  go_ret2
                  exact ⟨ret_pair (by rw [HX.out, HE1.out]) (by rw [HXL.out, HL1.out]), rfl⟩
              · have HE1 : Hid (E = e) := by have := HE.out; rw [ev_no l k e y hlt HY.out (fun h => hlo h.1)] at this; exact this
                have HL1 : Hid (L = k) := by have := HL.out; rw [dn_no l k y hlt HY.out (fun h => hlo h.1)] at this; exact this
                go_wp2
                go_ret2
                exact ⟨ret_pair (by rw [HX.out, HE1.out]) (by rw [HXL.out, HL1.out]), rfl⟩
            · have HE1 : Hid (E = e) := by have := HE.out; rw [List.drop_of_length_le (by omega)] at this; exact this
              have HL1 : Hid (L = k) := by have := HL.out; rw [List.drop_of_length_le (show l.length ≤ k by omega)] at this; exact this
              go_wp2
              go_ret2
              exact ⟨ret_pair (by rw [HX.out, HE1.out]) (by rw [HXL.out, HL1.out]), rfl⟩
    · obtain rfl : l = [] := List.eq_nil_of_length_eq_zero (by omega)
      simp only [List.length_nil]
      go_enter Trym.func17, Trym.ntmps17
      go_wp2
      go_loop [2, 5] (fun s n => s = .int .i64 0 ∧ n = .int .i64 0) (fun _ _ => 0)
      case atStart => exact ⟨rfl, rfl⟩
      case round =>
        obtain ⟨rfl, rfl⟩ := hrel
        go_wp2
        go_ret2
        exact ⟨rfl, rfl⟩

theorem exponentOf_is (a : Option Addr) (n cap L : Nat) (E : Int) (l : List Int) (w : World) (hE : Nu.exE l = E) (hL : Nu.exL l = L) (hn : n = l.length) (hB : Bs w a l) (hl : l.length ≤ 4194304) :
    Calls Trym.prog 17 #[.slice a n cap] w fun e w' => e = .returned (.tuple #[.int .i64 E, .int .i64 L]) ∧ w = w' := by
  subst hn
  rw [← hE, ← hL]
  exact exponentOf_any a cap l w hB hl
end Go.Proofs.Qxb6606062aMods
