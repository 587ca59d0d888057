/-
  SEAT b6606062aM: FnExponentOfSign, FnExponentOfLeadingZero walked, texts of at most 2^20 bytes without a sign.
-/
import Derived.Test.Qxb6606062aModsPre
namespace Go.Proofs.Qxb6606062aMods
open Go.RowKit

/-- WHAT THE TEST ON THE HEAD READS. -/
theorem head_cell {w : World} {a : Option Addr} {l : List Int} (hB : Bs w a l) (h : 0 < l.length) : ∃ b off, a = some ⟨b, off, none⟩ ∧ w.cell? ⟨b, off, none⟩ = some (.int .u8 (l.getD 0 0)) := by
  rcases hB with rfl | ⟨b, off, rfl, hc⟩
  · simp at h
  · exact ⟨b, off, rfl, by simpa using hc 0 h⟩

theorem unsigned_head {l : List Int} (h : 0 < l.length → l.getD 0 0 ≠ 45 ∧ l.getD 0 0 ≠ 43) : Nu.unsigned l := by
  intro c r e
  subst e
  simpa using h (by simp)

set_option maxHeartbeats 400000 in
theorem zexp_is (a : Option Addr) (n cap L : Nat) (E : Int) (l : List Int) (w : World) (hE : Nu.exE l = E) (hL : Nu.exL l = L) (hn : n = l.length) (hB : Bs w a l) (hl : l.length ≤ 4194304) :
    Calls Trym.prog 9 #[.slice a n cap] w fun e w' => e = .returned (.tuple #[.int .i64 E, .int .i64 L]) ∧ w = w' := by
  have H := exponentOf_is a n cap L E l w hE hL hn hB hl
  clear hE hL hn hB hl
  have HH : Hid (Calls Trym.prog 17 #[.slice a n cap] w fun e w' => e = .returned (.tuple #[.int .i64 E, .int .i64 L]) ∧ w = w') := H
  clear H
  go_enter Trym.func9, Trym.ntmps9
  go_wp2_with (go_at_call 17; refine HH.out.mono ?_; rintro e w'' ⟨rfl, rfl⟩)
  go_ret2
  exact ⟨rfl, rfl⟩

set_option maxHeartbeats 1600000 in
theorem sign_small (a0 : Option Addr) (len0 cap0 : Nat) (l : List Int) (E : Int) (D M : Nat) (w : World) (HL : Hid (len0 = l.length)) (hB : Bs w a0 l) (hnil : a0 = none → l = []) (hsm : (len0 : Int) ≤ 1048576)
    (hun : Hid (0 < len0 → l.getD 0 0 ≠ 45 ∧ l.getD 0 0 ≠ 43)) (HE : Hid (Nu.ev l 0 = E)) (HD : Hid (Nu.dn l = D)) (hE0 : 0 ≤ E) (hE1 : E ≤ 10995116277769) (hD : (D : Int) ≤ 1048576) (hM1 : M ≤ D + 1) (hM2 : D + 1 ≤ M) :
    Calls Trym.prog 4 #[.slice a0 len0 cap0] w fun e w' => e = .returned (.bool true) ∧ Below w.heap.size w w' := by
  have hl : l.length ≤ 2097152 := by have := HL.out; omega
  have hl4 : l.length ≤ 4194304 := by omega
  have HLc : Hid (∀ c : Int, (c :: l).length ≤ 4194304) := fun c => by rw [List.length_cons]; omega
  have HLn : Hid (∀ c : Int, len0 + 1 = (c :: l).length) := fun c => by have := HL.out; rw [List.length_cons]; omega
  have Hun : Hid (Nu.unsigned l) := unsigned_head (by rw [← HL.out]; exact hun.out)
  have H1 : Hid (Nu.exE l = E) := (Nu.exE_unsigned l Hun.out).trans HE.out
  have H2 : Hid (Nu.exL l = D) := (Nu.exL_unsigned l Hun.out).trans HD.out
  have H3 : Hid (Nu.exE (45 :: l) = -E) := by show Nu.exE (45 :: l) = -E; rw [Nu.exE_minus, HE.out]
  have H4 : Hid (Nu.exL (45 :: l) = M) := by show Nu.exL (45 :: l) = M; rw [Nu.exL_minus, HD.out]; omega
  have H5 : Hid (Nu.exE (43 :: l) = E) := by show Nu.exE (43 :: l) = E; rw [Nu.exE_plus, HE.out]
  have H6 : Hid (Nu.exL (43 :: l) = M) := by show Nu.exL (43 :: l) = M; rw [Nu.exL_plus, HD.out]; omega
  by_cases h0 : 0 < len0
  · obtain ⟨b, off, rfl, hcell⟩ := head_cell hB (by have := HL.out; omega)
    obtain ⟨x, hx⟩ : ∃ x, x = l.getD 0 0 := ⟨_, rfl⟩
    rw [← hx] at hcell
    have hh := hun.out h0
    rw [← hx] at hh
    have hx45 : (x == 45) = false := by simpa using hh.1
    have hx43 : (x == 43) = false := by simpa using hh.2
    clear hh hx
    go_enter Trym.func4, Trym.ntmps4
    go_wp2_with (first | (go_at_call 8; refine (clone_at _ _ _ l _ HL.out hB hl4 hnil).mono ?_; rintro e w1 ⟨a', cap', rfl, hcap', hB', _, hbel⟩) | (go_at_call 9; refine (zexp_is _ _ _ D E l _ H1.out H2.out HL.out hB' hl4).mono ?_; rintro e w'' ⟨rfl, rfl⟩) | (go_at_call 12; refine (prefixed_any 45 _ _ _ l _ HL.out hB' hl).mono ?_) | go_in)
    rintro e w2 ⟨g1, rfl, ho2, hbel2⟩
    have HB2 : Hid (Bs w2 (some ⟨g1, 0, none⟩) (45 :: l)) := (owns_Bs ho2).2.2
    have HB3 : Hid (Bs w2 a' l) := hB'.later (Nat.le_refl _) hbel2
    have HT : Hid (Below w.heap.size w w2) := hbel.trans (hbel2.mono hbel.size)
    clear ho2 hbel2 hbel hB'
    go_wp2_with (go_at_call 12; refine (prefixed_any 43 _ _ _ l _ HL.out HB3.out hl).mono ?_)
    rintro e w3 ⟨g2, rfl, ho3, hbel3⟩
    have HB4 : Hid (Bs w3 (some ⟨g2, 0, none⟩) (43 :: l)) := (owns_Bs ho3).2.2
    have HB5 : Hid (Bs w3 (some ⟨g1, 0, none⟩) (45 :: l)) := HB2.out.later (Nat.le_refl _) hbel3
    have HT3 : Hid (Below w.heap.size w w3) := HT.out.trans (hbel3.mono HT.out.size)
    clear ho3 hbel3 HB2 HB3
    go_wp2_with (go_at_call 9; refine (zexp_is _ _ _ M (-E) (45 :: l) _ H3.out H4.out (HLn.out 45) HB5.out (HLc.out 45)).mono ?_)
    rintro e w4 ⟨rfl, rfl⟩
    go_wp2_with (go_at_call 9; refine (zexp_is _ _ _ M E (43 :: l) _ H5.out H6.out (HLn.out 43) HB4.out (HLc.out 43)).mono ?_)
    rintro e w4 ⟨rfl, rfl⟩
    go_wp2
    go_ret
    exact ⟨rfl, HT3.out⟩
  · have h00 : ¬ (0 : Int) < (len0 : Int) := by omega
    go_enter Trym.func4, Trym.ntmps4
    go_wp2_with (first | (go_at_call 8; refine (clone_at _ _ _ l _ HL.out hB hl4 hnil).mono ?_; rintro e w1 ⟨a', cap', rfl, hcap', hB', _, hbel⟩) | (go_at_call 9; refine (zexp_is _ _ _ D E l _ H1.out H2.out HL.out hB' hl4).mono ?_; rintro e w'' ⟨rfl, rfl⟩) | (go_at_call 12; refine (prefixed_any 45 _ _ _ l _ HL.out hB' hl).mono ?_) | go_in)
    rintro e w2 ⟨g1, rfl, ho2, hbel2⟩
    have HB2 : Hid (Bs w2 (some ⟨g1, 0, none⟩) (45 :: l)) := (owns_Bs ho2).2.2
    have HB3 : Hid (Bs w2 a' l) := hB'.later (Nat.le_refl _) hbel2
    have HT : Hid (Below w.heap.size w w2) := hbel.trans (hbel2.mono hbel.size)
    clear ho2 hbel2 hbel hB'
    go_wp2_with (go_at_call 12; refine (prefixed_any 43 _ _ _ l _ HL.out HB3.out hl).mono ?_)
    rintro e w3 ⟨g2, rfl, ho3, hbel3⟩
    have HB4 : Hid (Bs w3 (some ⟨g2, 0, none⟩) (43 :: l)) := (owns_Bs ho3).2.2
    have HB5 : Hid (Bs w3 (some ⟨g1, 0, none⟩) (45 :: l)) := HB2.out.later (Nat.le_refl _) hbel3
    have HT3 : Hid (Below w.heap.size w w3) := HT.out.trans (hbel3.mono HT.out.size)
    clear ho3 hbel3 HB2 HB3
    go_wp2_with (go_at_call 9; refine (zexp_is _ _ _ M (-E) (45 :: l) _ H3.out H4.out (HLn.out 45) HB5.out (HLc.out 45)).mono ?_)
    rintro e w4 ⟨rfl, rfl⟩
    go_wp2_with (go_at_call 9; refine (zexp_is _ _ _ M E (43 :: l) _ H5.out H6.out (HLn.out 43) HB4.out (HLc.out 43)).mono ?_)
    rintro e w4 ⟨rfl, rfl⟩
    go_wp2
    go_ret
    exact ⟨rfl, HT3.out⟩

set_option maxHeartbeats 1600000 in
theorem zero_small (a0 : Option Addr) (len0 cap0 : Nat) (l : List Int) (E : Int) (D M : Nat) (w : World) (HL : Hid (len0 = l.length)) (hB : Bs w a0 l) (hnil : a0 = none → l = []) (hsm : (len0 : Int) ≤ 1048576)
    (hun : Hid (0 < len0 → l.getD 0 0 ≠ 45 ∧ l.getD 0 0 ≠ 43)) (HE : Hid (Nu.ev l 0 = E)) (HD : Hid (Nu.dn l = D)) (hD : (D : Int) ≤ 1048576) (hM1 : M ≤ D + 1) (hM2 : D + 1 ≤ M) :
    Calls Trym.prog 5 #[.slice a0 len0 cap0] w fun e w' => e = .returned (.bool true) ∧ Below w.heap.size w w' := by
  have hl : l.length ≤ 2097152 := by have := HL.out; omega
  have hl4 : l.length ≤ 4194304 := by omega
  have HLc : Hid (∀ c : Int, (c :: l).length ≤ 4194304) := fun c => by rw [List.length_cons]; omega
  have HLn : Hid (∀ c : Int, len0 + 1 = (c :: l).length) := fun c => by have := HL.out; rw [List.length_cons]; omega
  have Hun : Hid (Nu.unsigned l) := unsigned_head (by rw [← HL.out]; exact hun.out)
  have H1 : Hid (Nu.exE l = E) := (Nu.exE_unsigned l Hun.out).trans HE.out
  have H2 : Hid (Nu.exL l = D) := (Nu.exL_unsigned l Hun.out).trans HD.out
  have H3 : Hid (Nu.exE (48 :: l) = E) := by show Nu.exE (48 :: l) = E; rw [Nu.exE_zero, HE.out]
  have H4 : Hid (Nu.exL (48 :: l) = M) := by show Nu.exL (48 :: l) = M; rw [Nu.exL_zero, HD.out]; omega
  by_cases h0 : 0 < len0
  · obtain ⟨b, off, rfl, hcell⟩ := head_cell hB (by have := HL.out; omega)
    obtain ⟨x, hx⟩ : ∃ x, x = l.getD 0 0 := ⟨_, rfl⟩
    rw [← hx] at hcell
    have hh := hun.out h0
    rw [← hx] at hh
    have hx45 : (x == 45) = false := by simpa using hh.1
    have hx43 : (x == 43) = false := by simpa using hh.2
    clear hh hx
    go_enter Trym.func5, Trym.ntmps5
    go_wp2_with (first | (go_at_call 8; refine (clone_at _ _ _ l _ HL.out hB hl4 hnil).mono ?_; rintro e w1 ⟨a', cap', rfl, hcap', hB', _, hbel⟩) | (go_at_call 9; refine (zexp_is _ _ _ D E l _ H1.out H2.out HL.out hB' hl4).mono ?_; rintro e w'' ⟨rfl, rfl⟩) | (go_at_call 12; refine (prefixed_any 48 _ _ _ l _ HL.out hB' hl).mono ?_) | go_in)
    rintro e w2 ⟨g1, rfl, ho2, hbel2⟩
    have HB2 : Hid (Bs w2 (some ⟨g1, 0, none⟩) (48 :: l)) := (owns_Bs ho2).2.2
    have HT : Hid (Below w.heap.size w w2) := hbel.trans (hbel2.mono hbel.size)
    clear ho2 hbel2 hbel hB'
    go_wp2_with (go_at_call 9; refine (zexp_is _ _ _ M E (48 :: l) _ H3.out H4.out (HLn.out 48) HB2.out (HLc.out 48)).mono ?_)
    rintro e w4 ⟨rfl, rfl⟩
    go_wp2
    go_ret
    exact ⟨ret_bool (a := ((M : Int) == (D : Int) + 1)) (by simp; omega), HT.out⟩
  · have h00 : ¬ (0 : Int) < (len0 : Int) := by omega
    go_enter Trym.func5, Trym.ntmps5
    go_wp2_with (first | (go_at_call 8; refine (clone_at _ _ _ l _ HL.out hB hl4 hnil).mono ?_; rintro e w1 ⟨a', cap', rfl, hcap', hB', _, hbel⟩) | (go_at_call 9; refine (zexp_is _ _ _ D E l _ H1.out H2.out HL.out hB' hl4).mono ?_; rintro e w'' ⟨rfl, rfl⟩) | (go_at_call 12; refine (prefixed_any 48 _ _ _ l _ HL.out hB' hl).mono ?_) | go_in)
    rintro e w2 ⟨g1, rfl, ho2, hbel2⟩
    have HB2 : Hid (Bs w2 (some ⟨g1, 0, none⟩) (48 :: l)) := (owns_Bs ho2).2.2
    have HT : Hid (Below w.heap.size w w2) := hbel.trans (hbel2.mono hbel.size)
    clear ho2 hbel2 hbel hB'
    go_wp2_with (go_at_call 9; refine (zexp_is _ _ _ M E (48 :: l) _ H3.out H4.out (HLn.out 48) HB2.out (HLc.out 48)).mono ?_)
    rintro e w4 ⟨rfl, rfl⟩
    go_wp2
    go_ret
    exact ⟨ret_bool (a := ((M : Int) == (D : Int) + 1)) (by simp; omega), HT.out⟩

end Go.Proofs.Qxb6606062aMods
