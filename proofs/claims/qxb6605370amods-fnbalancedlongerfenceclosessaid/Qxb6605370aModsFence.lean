/-
  WALK of seat b6605370aM: FnBalancedLongerFenceCloses.
-/
import Derived.Test.Qxb6605370aModsTicks
namespace Go.Proofs.Qxb6605370aMods
open Go.RowKit

theorem new_three (w : World) (x y z : Int) : ∀ j u, (bv [x, y, z])[j]? = some u → (w.alloc (.cells #[.int .u8 x, .int .u8 y, .int .u8 z] 5)).cell? ((⟨w.heap.size, 0, none⟩ : Addr).add j) = some u := by
  intro j u hj
  match j, hj with
  | 0, hj => simp [bv] at hj; subst hj; simp [Addr.add]
  | 1, hj => simp [bv] at hj; subst hj; simp [Addr.add]
  | 2, hj => simp [bv] at hj; subst hj; simp [Addr.add]

theorem fence_grow (l : List Int) (q i : Nat) : bv (List.replicate (q + 1) 96 ++ (32 :: (l ++ (32 :: List.replicate i 96)))) ++ bv [96] = bv (List.replicate (q + 1) 96 ++ (32 :: (l ++ (32 :: List.replicate (i + 1) 96)))) := by
  rw [bv_append]; congr 1; simp [List.replicate_succ']

theorem fence_start (l : List Int) (q : Nat) : bv (List.replicate (q + 1) 96) ++ (bv [32] ++ (bv l ++ bv [32])) = bv (List.replicate (q + 1) 96 ++ (32 :: (l ++ (32 :: List.replicate 0 96)))) := by
  rw [bv_append, bv_append, bv_append]; rfl

set_option maxHeartbeats 1600000 in
theorem fence_small (a0 : Option Addr) (len0 cap0 : Nat) (l : List Int) (q C : Nat) (w : World) (HL : Hid (len0 = l.length)) (hB : Bs w a0 l) (hnil : a0 = none → l = []) (hsm : (len0 : Int) ≤ 1048576)
    (HQ : Hid (Md.lt l 0 0 = q)) (hq : q ≤ len0) (hC1 : len0 + 2 * (q + 1) + 2 ≤ C) (hC2 : C ≤ len0 + 2 * (q + 1) + 2) :
    Calls Trym.prog 4 #[.slice a0 len0 cap0] w fun e w' => e = .returned (.bool true) ∧ Below w.heap.size w w' := by
  obtain ⟨i0, hi, hz0, hz1, hz2⟩ := info_parts info5
  have hmb : Hid (∀ n : Nat, n ≤ 4194304 → i0.bytes * n ≤ 281474976710656) := fun n h => by rw [hz2]; omega
  have hml : Hid (∀ n : Nat, n ≤ 4194304 → n ≤ maxLen) := fun n h => by unfold maxLen; omega
  have hl : l.length ≤ 4194304 := by have := HL.out; omega
  have HF : Hid (Md.fenced l = List.replicate (q + 1) 96 ++ (32 :: (l ++ (32 :: List.replicate (q + 1) 96)))) := by have := HQ.out; show Md.fenced l = _; unfold Md.fenced; rw [this]
  have HFL : Hid ((Md.fenced l).length = C) := by have := HL.out; show (Md.fenced l).length = C; rw [HF.out]; simp; omega
  have HT : Hid (Md.am (Md.fenced l) 0 0 0 0 0 = true) := Md.am_fenced l 0
  have HU : Hid (Md.am (42 :: 42 :: 97 :: Md.fenced l) 0 0 0 0 0 = false) := Md.am_starred l
  have HN : Hid ((bv l).length = len0 * 1) := by have := HL.out; show (bv l).length = len0 * 1; rw [bv_length]; omega
  go_enter Trym.func4, Trym.ntmps4
  go_wp2_with (first | (go_at_call 8; refine (clone_at _ _ _ l _ HL.out hB hl hnil).mono ?_; rintro e w1 ⟨a', cap', rfl, hcap', hB', ho1, hbel⟩) | (go_at_call 12; refine (ticks_is _ _ _ q l _ HQ.out HL.out hB' hl).mono ?_; rintro e w' ⟨rfl, rfl⟩) | (at_make; refine wpList_make_own _ rfl _ _ 22 rfl _ 5 i0 (.int .u8 0) 1 Trym.underlying22 hi hz0 hz1 _ _ _ C rfl rfl (by omega) (hmb.out _ (by omega)) (hml.out _ (by omega)) (Nat.le_refl _) ?_) | go_in)
  intro w2 hown hgrow
  have HB2 : Hid (Below w1.heap.size w1 w2 ∧ w1.heap.size ≤ w2.heap.size) := below_make (Below.refl _ _) (Nat.le_refl _) hgrow
  have HO2 : Hid (w2.ownsRow w1.heap.size 5 1 (.slice (some ⟨w1.heap.size, 0, none⟩) 0 C) 0 (bv (List.replicate 0 96))) := hown
  clear hgrow hown
  go_wp2
  go_loopw [4, 5] (fun v j wr => ∃ i : Nat, i ≤ q + 1 ∧ j = .int .i64 i ∧ v = .slice (some ⟨w1.heap.size, 0, none⟩) i C ∧ wr.ownsRow w1.heap.size 5 1 (.slice (some ⟨w1.heap.size, 0, none⟩) i C) i (bv (List.replicate i 96)) ∧ Below w1.heap.size w1 wr ∧ w1.heap.size ≤ wr.heap.size) (fun _ j _ => q + 1 - (intOf j).toNat)
  case atStart => exact ⟨0, Nat.zero_le _, rfl, rfl, HO2.out, HB2.out.1, HB2.out.2⟩
  case round =>
    obtain ⟨i, hik, rfl, rfl, ho, hb, hbs⟩ := hrel
    have HBr : Hid (Below w1.heap.size w1 wr ∧ w1.heap.size ≤ wr.heap.size) := ⟨hb, hbs⟩
    clear hb hbs
    by_cases hlt : i < q + 1
    · go_wp2_with (at_builtin; refine wpList_append_fits _ rfl (.tmp 31) (.tmp 32) 22 rfl _ 5 i0 1 Trym.underlying22 hi hz1 _ _ _ _ rfl (ho.alloc _) ⟨wr.heap.size, 0, none⟩ 1 1 (bv [96]) rfl rfl (new_cell _ _) (bv_one _) (by omega) ?_)
      intro w6 hown6 hgrow6
      rw [bv_snoc] at hown6
      have HO6 : Hid (w6.ownsRow w1.heap.size 5 1 (.slice (some ⟨w1.heap.size, 0, none⟩) (i + 1) C) (i + 1) (bv (List.replicate (i + 1) 96))) := hown6
      have HB6 : Hid (Below w1.heap.size w1 w6 ∧ w1.heap.size ≤ w6.heap.size) := below_one HBr.out.1 HBr.out.2 (Nat.le_refl _) hgrow6
      clear hown6 hgrow6 ho
      go_wp2
      go_roundw
      case rel => exact ⟨i + 1, by omega, by go_num, rfl, HO6.out, HB6.out.1, HB6.out.2⟩
      case measure => simp [intOf]; omega
    · obtain rfl : i = q + 1 := by omega
      go_wp2_with (at_builtin; refine wpList_append_fits _ rfl (.tmp 34) (.tmp 35) 22 rfl _ 5 i0 1 Trym.underlying22 hi hz1 _ _ _ _ rfl (ho.alloc _) ⟨wr.heap.size, 0, none⟩ 1 1 (bv [32]) rfl rfl (new_cell _ _) (bv_one _) (by omega) ?_)
      intro w3 hown3 hgrow3
      have HB3 : Hid (Below w1.heap.size w1 w3 ∧ w1.heap.size ≤ w3.heap.size) := below_one HBr.out.1 HBr.out.2 (Nat.le_refl _) hgrow3
      have HC3 : Hid (∀ ad, a' = some ad → ∀ j u, (bv l)[j]? = some u → w3.cell? (ad.add j) = some u) := (hB'.later (Nat.le_refl _) HB3.out.1).cells
      clear hgrow3 ho
      go_wp2_with (at_builtin; refine wpList_append_fits_any _ rfl (.tmp 37) (.tmp 38) 22 rfl _ 5 i0 1 Trym.underlying22 hi hz1 _ _ _ _ rfl hown3 a' len0 cap' (bv l) rfl HN.out (owns_none ho1) HC3.out (bv_one _) (by omega) ?_)
      intro w4 hown4 hgrow4
      have HB4 : Hid (Below w1.heap.size w1 w4 ∧ w1.heap.size ≤ w4.heap.size) := below_append HB3.out.1 HB3.out.2 (Nat.le_refl _) hgrow4
      clear hgrow4 hown3
      go_wp2_with (at_builtin; refine wpList_append_fits _ rfl (.tmp 40) (.tmp 41) 22 rfl _ 5 i0 1 Trym.underlying22 hi hz1 _ _ _ _ rfl (hown4.alloc _) ⟨w4.heap.size, 0, none⟩ 1 1 (bv [32]) rfl rfl (new_cell _ _) (bv_one _) (by omega) ?_)
      intro w5 hown5 hgrow5
      have HB5 : Hid (Below w1.heap.size w1 w5 ∧ w1.heap.size ≤ w5.heap.size) := below_one HB4.out.1 HB4.out.2 (Nat.le_refl _) hgrow5
      rw [fence_start] at hown5
      have HO5 : Hid (w5.ownsRow w1.heap.size 5 1 (.slice (some ⟨w1.heap.size, 0, none⟩) (q + 1 + 1 + len0 + 1) C) (q + 1 + 1 + len0 + 1) (bv (List.replicate (q + 1) 96 ++ (32 :: (l ++ (32 :: List.replicate 0 96)))))) := hown5
      clear hgrow5 hown5 hown4 HB2 HO2 HB3 HC3 HB4 HBr hik hlt
      go_wp2
      go_loopw [4, 6] (fun v j wr => ∃ i n : Nat, i ≤ q + 1 ∧ n ≤ len0 + q + 3 + i ∧ len0 + q + 3 + i ≤ n ∧ j = .int .i64 i ∧ v = .slice (some ⟨w1.heap.size, 0, none⟩) n C ∧ wr.ownsRow w1.heap.size 5 1 (.slice (some ⟨w1.heap.size, 0, none⟩) n C) n (bv (List.replicate (q + 1) 96 ++ (32 :: (l ++ (32 :: List.replicate i 96))))) ∧ Below w1.heap.size w1 wr ∧ w1.heap.size ≤ wr.heap.size) (fun _ j _ => q + 1 - (intOf j).toNat)
      case atStart => exact ⟨0, q + 1 + 1 + len0 + 1, Nat.zero_le _, by omega, by omega, rfl, rfl, HO5.out, HB5.out.1, HB5.out.2⟩
      case round =>
        obtain ⟨i, n, hik, hn1, hn2, rfl, rfl, ho, hb, hbs⟩ := hrel
        have HBr : Hid (Below w1.heap.size w1 wr ∧ w1.heap.size ≤ wr.heap.size) := ⟨hb, hbs⟩
        clear hb hbs
        by_cases hlt : i < q + 1
        · go_wp2_with (at_builtin; refine wpList_append_fits _ rfl (.tmp 48) (.tmp 49) 22 rfl _ 5 i0 1 Trym.underlying22 hi hz1 _ _ _ _ rfl (ho.alloc _) ⟨wr.heap.size, 0, none⟩ 1 1 (bv [96]) rfl rfl (new_cell _ _) (bv_one _) (by omega) ?_)
          intro w6 hown6 hgrow6
          rw [fence_grow] at hown6
          have HO6 : Hid (w6.ownsRow w1.heap.size 5 1 (.slice (some ⟨w1.heap.size, 0, none⟩) (n + 1) C) (n + 1) (bv (List.replicate (q + 1) 96 ++ (32 :: (l ++ (32 :: List.replicate (i + 1) 96)))))) := hown6
          have HB6 : Hid (Below w1.heap.size w1 w6 ∧ w1.heap.size ≤ w6.heap.size) := below_one HBr.out.1 HBr.out.2 (Nat.le_refl _) hgrow6
          clear hown6 hgrow6 ho
          go_wp2
          go_roundw
          case rel => exact ⟨i + 1, n + 1, by omega, by omega, by omega, by go_num, rfl, HO6.out, HB6.out.1, HB6.out.2⟩
          case measure => simp [intOf]; omega
        · obtain rfl : i = q + 1 := by omega
          rw [← HF.out] at ho
          have HO : Hid (wr.ownsRow w1.heap.size 5 1 (.slice (some ⟨w1.heap.size, 0, none⟩) n C) n (bv (Md.fenced l))) := ho
          have HLF : Hid ((Md.fenced l).length ≤ 4194304) := by have := HFL.out; show (Md.fenced l).length ≤ 4194304; omega
          have HLU : Hid ((42 :: 42 :: 97 :: Md.fenced l).length ≤ 4194304) := by have := HFL.out; show (42 :: 42 :: 97 :: Md.fenced l).length ≤ 4194304; simp only [List.length_cons]; omega
          clear ho hik hlt HO5 HB5
          go_wp2_with (first | (go_at_call 17; refine (balanced_own _ _ _ _ true (Md.fenced l) _ HO.out HT.out HLF.out).mono ?_; rintro e w' ⟨rfl, rfl⟩) | (at_make; refine wpList_make_own _ rfl _ _ 22 rfl _ 5 i0 (.int .u8 0) 1 Trym.underlying22 hi hz0 hz1 _ _ _ (n + 3) rfl rfl (by omega) (hmb.out _ (by omega)) (hml.out _ (by omega)) (Nat.le_refl _) ?_) | go_in)
          intro w7 hown7 hgrow7
          have HB7 : Hid (Below wr.heap.size wr w7 ∧ wr.heap.size ≤ w7.heap.size) := below_make (Below.refl _ _) (Nat.le_refl _) hgrow7
          clear hgrow7
          go_wp2_with (at_builtin; refine wpList_append_fits _ rfl (.tmp 58) (.tmp 59) 22 rfl _ 5 i0 1 Trym.underlying22 hi hz1 _ _ _ _ rfl (hown7.alloc _) ⟨w7.heap.size, 0, none⟩ 3 3 (bv [42, 42, 97]) rfl rfl (new_three _ _ _ _) (bv_one _) (by omega) ?_)
          intro w8 hown8 hgrow8
          have HB8 : Hid (Below wr.heap.size wr w8 ∧ wr.heap.size ≤ w8.heap.size) := below_one HB7.out.1 HB7.out.2 (Nat.le_refl _) hgrow8
          have HC8 : Hid (∀ j u, (bv (Md.fenced l))[j]? = some u → w8.cell? ((⟨w1.heap.size, 0, none⟩ : Addr).add j) = some u) := ((owns_Bs HO.out).2.2.later (Nat.le_refl _) HB8.out.1).cells _ rfl
          have HN8 : Hid ((bv (Md.fenced l)).length = n * 1) := by have := (owns_Bs HO.out).1; show (bv (Md.fenced l)).length = n * 1; rw [bv_length]; omega
          clear hgrow8 hown7
          go_wp2_with (at_builtin; refine wpList_append_fits _ rfl (.tmp 61) (.tmp 62) 22 rfl _ 5 i0 1 Trym.underlying22 hi hz1 _ _ _ _ rfl hown8 ⟨w1.heap.size, 0, none⟩ n C (bv (Md.fenced l)) rfl HN8.out HC8.out (bv_one _) (by omega) ?_)
          intro w9 hown9 hgrow9
          have HB9 : Hid (Below wr.heap.size wr w9 ∧ wr.heap.size ≤ w9.heap.size) := below_append HB8.out.1 HB8.out.2 (Nat.le_refl _) hgrow9
          have HO9 : Hid (w9.ownsRow wr.heap.size 5 1 (.slice (some ⟨wr.heap.size, 0, none⟩) (3 + n) (n + 3)) (3 + n) (bv (42 :: 42 :: 97 :: Md.fenced l))) := hown9
          clear hgrow9 hown9 hown8
          go_wp2_with (first | (go_at_call 17; refine (balanced_own _ _ _ _ false (42 :: 42 :: 97 :: Md.fenced l) _ HO9.out HU.out HLU.out).mono ?_; rintro e w' ⟨rfl, rfl⟩) | go_in)
          go_ret
          exact ⟨rfl, hbel.trans ((HBr.out.1.mono hbel.size).trans (HB9.out.1.mono (Nat.le_trans hbel.size HBr.out.2)))⟩
end Go.Proofs.Qxb6605370aMods
