/-
  WALK of seat b6605370aM: FnClosingRunShiftsPastPrefix.
-/
import Derived.Test.Qxb6605370aModsClone
namespace Go.Proofs.Qxb6605370aMods
open Go.RowKit

/-- WHAT IS READ STANDS IN EVERY LATER WORLD THAT LEAVES THE OLD BLOCKS ALONE. -/
theorem Bs.later {w w' : World} {a : Option Addr} {l : List Int} {B : Nat} (h : Bs w a l) (hB : w.heap.size ≤ B) (hb : Below B w w') : Bs w' a l := by
  rcases h with rfl | ⟨b, off, rfl, hc⟩
  · exact .inl rfl
  · exact .inr ⟨b, off, rfl, fun i hi => (hb.cell (p := ⟨b, off + i, none⟩) (Nat.lt_of_lt_of_le (World.block_lt_of_cell? w _ (hc i hi)) hB)).trans (hc i hi)⟩

theorem Bs.cells {w : World} {a : Option Addr} {l : List Int} (h : Bs w a l) : ∀ ad, a = some ad → ∀ j u, (bv l)[j]? = some u → w.cell? (ad.add j) = some u := by
  intro ad hd j u hu
  have hj : j < l.length := by have := (List.getElem?_eq_some_iff.1 hu).1; rwa [bv_length] at this
  rcases h with rfl | ⟨b, off, rfl, hc⟩
  · simp at hj
  · obtain rfl := Option.some.inj hd
    rw [Addr.add_lit, hc j hj]
    simpa [bv, List.getD_eq_getElem?_getD, hj] using hu

theorem bv_one (l : List Int) : ∀ u ∈ bv l, u.oneCell' = true := ints_oneCell .u8 l

theorem new_cell (w : World) (x : Int) : ∀ j u, (bv [x])[j]? = some u → (w.alloc (.cells #[.int .u8 x] 5)).cell? ((⟨w.heap.size, 0, none⟩ : Addr).add j) = some u := by
  intro j u hj
  match j, hj with
  | 0, hj => simp [bv] at hj; subst hj; simp [Addr.add]

/-- A row that is owned and nil has no elements and no room. -/
theorem owns_none {w : World} {base n cap : Nat} {a : Option Addr} {l : List Int} (h : w.ownsRow base 5 1 (.slice a n cap) n (bv l)) : a = none → n = 0 ∧ cap = 0 := by
  rintro rfl
  rcases h.2 with ⟨h1, h2⟩ | ⟨g, cap', cur, h1, _⟩
  · simp at h1; exact h1
  · simp at h1

theorem closingRun_is (a : Option Addr) (m cap : Nat) (l : List Int) (n r : Int) (w : World) (hr : Md.scan n l 0 0 = r) (hn : m = l.length) (hB : Bs w a l) (hl : l.length ≤ 4194304) (hcap : m ≤ cap) :
    Calls Trym.prog 19 #[.slice a m cap, .int .i64 n] w fun e w' => e = .returned (.int .i64 r) ∧ w' = w := by
  rw [← hr]; exact closingRun_at a m cap l n w hn hB hl hcap

theorem closingModel_is (a : Option Addr) (m cap : Nat) (l : List Int) (n r : Int) (w : World) (hr : Md.scan n l 0 0 = r) (hn : m = l.length) (hB : Bs w a l) (hl : l.length ≤ 4194304) :
    Calls Trym.prog 15 #[.slice a m cap, .int .i64 n] w fun e w' => e = .returned (.int .i64 r) ∧ w' = w := by
  rw [← hr]; exact closingModel_at a m cap l n w hn hB hl

theorem owns_Bs {w : World} {B g n cap : Nat} {l : List Int} (h : w.ownsRow B 5 1 (.slice (some ⟨g, 0, none⟩) n cap) n (bv l)) : n = l.length ∧ n ≤ cap ∧ Bs w (some ⟨g, 0, none⟩) l := by
  obtain ⟨h1, a, c, h2, h3, h4⟩ := owns_bytes h
  simp only [Value.slice.injEq] at h2
  obtain ⟨rfl, _, rfl⟩ := h2
  exact ⟨h1, h3, h4⟩

theorem below_make {B : Nat} {w w1 w2 : World} (hb : Below B w w1) (hB : B ≤ w1.heap.size) (hg : w1.grownBy w2 none) : Below B w w2 ∧ B ≤ w2.heap.size :=
  ⟨hb.grown hg hB (fun k h => by cases h), Nat.le_trans hB hg.size⟩
theorem below_append {B g : Nat} {w w1 w2 : World} (hb : Below B w w1) (hB : B ≤ w1.heap.size) (hBg : B ≤ g) (hg : w1.grownBy w2 (some g)) : Below B w w2 ∧ B ≤ w2.heap.size :=
  ⟨hb.grown hg hB (fun k h => by cases h; exact hBg), Nat.le_trans hB hg.size⟩
theorem below_one {B g : Nat} {o : Obj} {w w1 w2 : World} (hb : Below B w w1) (hB : B ≤ w1.heap.size) (hBg : B ≤ g) (hg : (w1.alloc o).grownBy w2 (some g)) : Below B w w2 ∧ B ≤ w2.heap.size :=
  below_append (hb.alloc hB o) (by simp; omega) hBg hg

theorem bv_append (x y : List Int) : bv x ++ bv y = bv (x ++ y) := by simp [bv]
theorem bv_snoc (i : Nat) (c : Int) : bv (List.replicate i c) ++ bv [c] = bv (List.replicate (i + 1) c) := by rw [bv_append, List.replicate_succ']

/-- WHAT closingRun ANSWERS OF A ROW THAT THE CALL ITSELF MADE. -/
theorem closingRun_own (B g m cap : Nat) (l : List Int) (n r : Int) (w : World) (ho : w.ownsRow B 5 1 (.slice (some ⟨g, 0, none⟩) m cap) m (bv l)) (hr : Md.scan n l 0 0 = r) (hl : l.length ≤ 4194304) :
    Calls Trym.prog 19 #[.slice (some ⟨g, 0, none⟩) m cap, .int .i64 n] w fun e w' => e = .returned (.int .i64 r) ∧ w' = w := by
  obtain ⟨h1, h2, h3⟩ := owns_Bs ho
  exact closingRun_is _ m cap l n r w hr h1 h3 hl h2

set_option maxHeartbeats 1600000 in
theorem shift_out (a0 : Option Addr) (len0 cap0 : Nat) (l : List Int) (n W r : Int) (w : World) (HL : Hid (len0 = l.length)) (hB : Bs w a0 l) (hnil : a0 = none → l = []) (hsm : (len0 : Int) ≤ 1048576)
    (HW : Hid (Md.scan n l 0 0 = W)) (Hr : Hid (Md.scan n (97 :: l) 0 0 = r)) (hwr : (W < 0 ∧ r = -1) ∨ (0 ≤ W ∧ W ≤ 1048576 ∧ r = W + 1)) (hn : n < 1 ∨ 65536 < n) :
    Calls Trym.prog 6 #[.slice a0 len0 cap0, .int .i64 n] w fun e w' => e = .returned (.bool true) ∧ Below w.heap.size w w' := by
  obtain ⟨i0, hi, hz0, hz1, hz2⟩ := info_parts info5
  have hmb : Hid (∀ n : Nat, n ≤ 4194304 → i0.bytes * n ≤ 281474976710656) := fun n h => by rw [hz2]; omega
  have hml : Hid (∀ n : Nat, n ≤ 4194304 → n ≤ maxLen) := fun n h => by unfold maxLen; omega
  have hl : l.length ≤ 4194304 := by have := HL.out; omega
  have HL2 : Hid ((97 :: l).length ≤ 4194304) := by show (97 :: l).length ≤ 4194304; rw [List.length_cons]; have := HL.out; omega
  rcases hwr with ⟨hW, rfl⟩ | ⟨hW, hW2, rfl⟩
  · rcases hn with hn | hn
    all_goals
      go_enter Trym.func6, Trym.ntmps6
      go_wp2_with (first | (go_at_call 8; refine (clone_at _ _ _ l _ HL.out hB hl hnil).mono ?_; rintro e w' ⟨a', cap', rfl, hcap', hB', ho1, hbel⟩) | (go_at_call 19; refine (closingRun_is _ _ _ l _ _ _ HW.out HL.out hB' hl hcap').mono ?_; rintro e w'' ⟨rfl, rfl⟩) | (go_at_call 15; refine (closingModel_is _ _ _ l _ _ _ HW.out HL.out hB' hl).mono ?_; rintro e w'' ⟨rfl, rfl⟩) | (at_make; refine wpList_make_own _ rfl _ _ 22 rfl _ 5 i0 (.int .u8 0) 1 Trym.underlying22 hi hz0 hz1 _ _ _ (len0 + 1) rfl rfl (by omega) (hmb.out _ (by omega)) (hml.out _ (by omega)) (Nat.le_refl _) ?_) | go_in)
      intro w2 hown hgrow
      have HB2 : Hid (Below w''.heap.size w'' w2 ∧ w''.heap.size ≤ w2.heap.size) := below_make (Below.refl _ _) (Nat.le_refl _) hgrow
      clear hgrow
      go_wp2_with (at_builtin; refine wpList_append_fits _ rfl (.tmp 31) (.tmp 32) 22 rfl _ 5 i0 1 Trym.underlying22 hi hz1 _ _ _ _ rfl (hown.alloc _) ⟨w2.heap.size, 0, none⟩ 1 1 (bv [97]) rfl rfl (new_cell _ _) (bv_one _) (by omega) ?_)
      intro w3 hown3 hgrow3
      have HB3 : Hid (Below w''.heap.size w'' w3 ∧ w''.heap.size ≤ w3.heap.size) := below_one HB2.out.1 HB2.out.2 (Nat.le_refl _) hgrow3
      have HC3 : Hid (∀ ad, a' = some ad → ∀ j u, (bv l)[j]? = some u → w3.cell? (ad.add j) = some u) := (hB'.later (Nat.le_refl _) HB3.out.1).cells
      have HN : Hid ((bv l).length = len0 * 1) := by have := HL.out; show (bv l).length = len0 * 1; rw [bv_length]; omega
      clear hgrow3 hown
      go_wp2_with (at_builtin; refine wpList_append_fits_any _ rfl (.tmp 34) (.tmp 35) 22 rfl _ 5 i0 1 Trym.underlying22 hi hz1 _ _ _ _ rfl hown3 a' len0 cap' (bv l) rfl HN.out (owns_none ho1) HC3.out (bv_one _) (by omega) ?_)
      intro w4 hown4 hgrow4
      have HO4 : Hid (w4.ownsRow w''.heap.size 5 1 (.slice (some ⟨w''.heap.size, 0, none⟩) (1 + len0) (len0 + 1)) (1 + len0) (bv (97 :: l))) := hown4
      have HB4 : Hid (Below w''.heap.size w'' w4 ∧ w''.heap.size ≤ w4.heap.size) := below_append HB3.out.1 HB3.out.2 (Nat.le_refl _) hgrow4
      clear hown4 hgrow4 hown3
      go_wp2_with (first | (go_at_call 19; refine (closingRun_own _ _ _ _ (97 :: l) _ _ _ HO4.out Hr.out HL2.out).mono ?_; rintro e w4 ⟨rfl, rfl⟩) | go_in)
      go_ret
      exact ⟨rfl, hbel.trans (HB4.out.1.mono hbel.size)⟩
  · rcases hn with hn | hn
    all_goals
      go_enter Trym.func6, Trym.ntmps6
      go_wp2_with (first | (go_at_call 8; refine (clone_at _ _ _ l _ HL.out hB hl hnil).mono ?_; rintro e w' ⟨a', cap', rfl, hcap', hB', ho1, hbel⟩) | (go_at_call 19; refine (closingRun_is _ _ _ l _ _ _ HW.out HL.out hB' hl hcap').mono ?_; rintro e w'' ⟨rfl, rfl⟩) | (go_at_call 15; refine (closingModel_is _ _ _ l _ _ _ HW.out HL.out hB' hl).mono ?_; rintro e w'' ⟨rfl, rfl⟩) | (at_make; refine wpList_make_own _ rfl _ _ 22 rfl _ 5 i0 (.int .u8 0) 1 Trym.underlying22 hi hz0 hz1 _ _ _ (len0 + 1) rfl rfl (by omega) (hmb.out _ (by omega)) (hml.out _ (by omega)) (Nat.le_refl _) ?_) | go_in)
      intro w2 hown hgrow
      have HB2 : Hid (Below w''.heap.size w'' w2 ∧ w''.heap.size ≤ w2.heap.size) := below_make (Below.refl _ _) (Nat.le_refl _) hgrow
      clear hgrow
      go_wp2_with (at_builtin; refine wpList_append_fits _ rfl (.tmp 31) (.tmp 32) 22 rfl _ 5 i0 1 Trym.underlying22 hi hz1 _ _ _ _ rfl (hown.alloc _) ⟨w2.heap.size, 0, none⟩ 1 1 (bv [97]) rfl rfl (new_cell _ _) (bv_one _) (by omega) ?_)
      intro w3 hown3 hgrow3
      have HB3 : Hid (Below w''.heap.size w'' w3 ∧ w''.heap.size ≤ w3.heap.size) := below_one HB2.out.1 HB2.out.2 (Nat.le_refl _) hgrow3
      have HC3 : Hid (∀ ad, a' = some ad → ∀ j u, (bv l)[j]? = some u → w3.cell? (ad.add j) = some u) := (hB'.later (Nat.le_refl _) HB3.out.1).cells
      have HN : Hid ((bv l).length = len0 * 1) := by have := HL.out; show (bv l).length = len0 * 1; rw [bv_length]; omega
      clear hgrow3 hown
      go_wp2_with (at_builtin; refine wpList_append_fits_any _ rfl (.tmp 34) (.tmp 35) 22 rfl _ 5 i0 1 Trym.underlying22 hi hz1 _ _ _ _ rfl hown3 a' len0 cap' (bv l) rfl HN.out (owns_none ho1) HC3.out (bv_one _) (by omega) ?_)
      intro w4 hown4 hgrow4
      have HO4 : Hid (w4.ownsRow w''.heap.size 5 1 (.slice (some ⟨w''.heap.size, 0, none⟩) (1 + len0) (len0 + 1)) (1 + len0) (bv (97 :: l))) := hown4
      have HB4 : Hid (Below w''.heap.size w'' w4 ∧ w''.heap.size ≤ w4.heap.size) := below_append HB3.out.1 HB3.out.2 (Nat.le_refl _) hgrow4
      clear hown4 hgrow4 hown3
      go_wp2_with (first | (go_at_call 19; refine (closingRun_own _ _ _ _ (97 :: l) _ _ _ HO4.out Hr.out HL2.out).mono ?_; rintro e w4 ⟨rfl, rfl⟩) | go_in)
      go_ret
      exact ⟨rfl, hbel.trans (HB4.out.1.mono hbel.size)⟩

set_option maxHeartbeats 1600000 in
theorem shift_in (a0 : Option Addr) (len0 cap0 : Nat) (l : List Int) (k : Nat) (W r : Int) (w : World) (HL : Hid (len0 = l.length)) (hB : Bs w a0 l) (hnil : a0 = none → l = []) (hsm : (len0 : Int) ≤ 1048576)
    (HW : Hid (Md.scan (k : Int) l 0 0 = W)) (Hr : Hid (Md.scan (k : Int) (97 :: l) 0 0 = r)) (hwr : (W < 0 ∧ r = -1) ∨ (0 ≤ W ∧ W ≤ 1048576 ∧ r = W + 1)) (hk1 : 1 ≤ (k : Int)) (hk2 : (k : Int) ≤ 65536) :
    Calls Trym.prog 6 #[.slice a0 len0 cap0, .int .i64 (k : Int)] w fun e w' => e = .returned (.bool true) ∧ Below w.heap.size w w' := by
  obtain ⟨i0, hi, hz0, hz1, hz2⟩ := info_parts info5
  have hmb : Hid (∀ n : Nat, n ≤ 4194304 → i0.bytes * n ≤ 281474976710656) := fun n h => by rw [hz2]; omega
  have hml : Hid (∀ n : Nat, n ≤ 4194304 → n ≤ maxLen) := fun n h => by unfold maxLen; omega
  have hl : l.length ≤ 4194304 := by have := HL.out; omega
  have HL2 : Hid ((97 :: l).length ≤ 4194304) := by show (97 :: l).length ≤ 4194304; rw [List.length_cons]; have := HL.out; omega
  have HL3 : Hid ((List.replicate k 96 ++ 97 :: l).length ≤ 4194304) := by show (List.replicate k 96 ++ 97 :: l).length ≤ 4194304; rw [List.length_append, List.length_replicate, List.length_cons]; have := HL.out; omega
  rcases hwr with ⟨hW, rfl⟩ | ⟨hW, hW2, rfl⟩
  all_goals
    go_enter Trym.func6, Trym.ntmps6
    go_wp2_with (first | (go_at_call 8; refine (clone_at _ _ _ l _ HL.out hB hl hnil).mono ?_; rintro e w' ⟨a', cap', rfl, hcap', hB', ho1, hbel⟩) | (go_at_call 19; refine (closingRun_is _ _ _ l _ _ _ HW.out HL.out hB' hl hcap').mono ?_; rintro e w'' ⟨rfl, rfl⟩) | (go_at_call 15; refine (closingModel_is _ _ _ l _ _ _ HW.out HL.out hB' hl).mono ?_; rintro e w'' ⟨rfl, rfl⟩) | (at_make; refine wpList_make_own _ rfl _ _ 22 rfl _ 5 i0 (.int .u8 0) 1 Trym.underlying22 hi hz0 hz1 _ _ _ (len0 + 1) rfl rfl (by omega) (hmb.out _ (by omega)) (hml.out _ (by omega)) (Nat.le_refl _) ?_) | go_in)
    intro w2 hown hgrow
    have HB2 : Hid (Below w''.heap.size w'' w2 ∧ w''.heap.size ≤ w2.heap.size) := below_make (Below.refl _ _) (Nat.le_refl _) hgrow
    clear hgrow
    go_wp2_with (at_builtin; refine wpList_append_fits _ rfl (.tmp 31) (.tmp 32) 22 rfl _ 5 i0 1 Trym.underlying22 hi hz1 _ _ _ _ rfl (hown.alloc _) ⟨w2.heap.size, 0, none⟩ 1 1 (bv [97]) rfl rfl (new_cell _ _) (bv_one _) (by omega) ?_)
    intro w3 hown3 hgrow3
    have HB3 : Hid (Below w''.heap.size w'' w3 ∧ w''.heap.size ≤ w3.heap.size) := below_one HB2.out.1 HB2.out.2 (Nat.le_refl _) hgrow3
    have HC3 : Hid (∀ ad, a' = some ad → ∀ j u, (bv l)[j]? = some u → w3.cell? (ad.add j) = some u) := (hB'.later (Nat.le_refl _) HB3.out.1).cells
    have HN : Hid ((bv l).length = len0 * 1) := by have := HL.out; show (bv l).length = len0 * 1; rw [bv_length]; omega
    clear hgrow3 hown
    go_wp2_with (at_builtin; refine wpList_append_fits_any _ rfl (.tmp 34) (.tmp 35) 22 rfl _ 5 i0 1 Trym.underlying22 hi hz1 _ _ _ _ rfl hown3 a' len0 cap' (bv l) rfl HN.out (owns_none ho1) HC3.out (bv_one _) (by omega) ?_)
    intro w4 hown4 hgrow4
    have HO4 : Hid (w4.ownsRow w''.heap.size 5 1 (.slice (some ⟨w''.heap.size, 0, none⟩) (1 + len0) (len0 + 1)) (1 + len0) (bv (97 :: l))) := hown4
    have HB4 : Hid (Below w''.heap.size w'' w4 ∧ w''.heap.size ≤ w4.heap.size) := below_append HB3.out.1 HB3.out.2 (Nat.le_refl _) hgrow4
    clear hown4 hgrow4 hown3
    go_wp2_with (first | (go_at_call 19; refine (closingRun_own _ _ _ _ (97 :: l) _ _ _ HO4.out Hr.out HL2.out).mono ?_; rintro e w4 ⟨rfl, rfl⟩) | (at_make; refine wpList_make_own _ rfl _ _ 22 rfl w''.heap.size 5 i0 (.int .u8 0) 1 Trym.underlying22 hi hz0 hz1 _ _ _ (k + 1 + len0) rfl rfl (by omega) (hmb.out _ (by omega)) (hml.out _ (by omega)) HB4.out.2 ?_) | go_in)
    intro w5 hown5 hgrow5
    have HB5 : Hid (Below w''.heap.size w'' w5 ∧ w''.heap.size ≤ w5.heap.size) := below_make HB4.out.1 HB4.out.2 hgrow5
    have HO5 : Hid (w5.ownsRow w''.heap.size 5 1 (.slice (some ⟨w4.heap.size, 0, none⟩) 0 (k + 1 + len0)) 0 (bv (List.replicate 0 96))) := hown5
    have HG : Hid (w''.heap.size ≤ w4.heap.size) := HB4.out.2
    clear hown5 hgrow5 HB2 HB3 HC3 HO4
    go_wp2
    go_loopw [8, 9] (fun v j wr => ∃ i : Nat, i ≤ k ∧ j = .int .i64 i ∧ v = .slice (some ⟨w4.heap.size, 0, none⟩) i (k + 1 + len0) ∧ wr.ownsRow w''.heap.size 5 1 (.slice (some ⟨w4.heap.size, 0, none⟩) i (k + 1 + len0)) i (bv (List.replicate i 96)) ∧ Below w''.heap.size w'' wr ∧ w''.heap.size ≤ wr.heap.size) (fun _ j _ => k - (intOf j).toNat)
    case atStart => exact ⟨0, Nat.zero_le _, rfl, rfl, HO5.out, HB5.out.1, HB5.out.2⟩
    case round =>
      obtain ⟨i, hik, rfl, rfl, ho, hb, hbs⟩ := hrel
      by_cases hlt : i < k
      · have HBr : Hid (Below w''.heap.size w'' wr ∧ w''.heap.size ≤ wr.heap.size) := ⟨hb, hbs⟩
        clear hb hbs
        go_wp2_with (at_builtin; refine wpList_append_fits _ rfl (.tmp 65) (.tmp 66) 22 rfl _ 5 i0 1 Trym.underlying22 hi hz1 _ _ _ _ rfl (ho.alloc _) ⟨wr.heap.size, 0, none⟩ 1 1 (bv [96]) rfl rfl (new_cell _ _) (bv_one _) (by omega) ?_)
        intro w6 hown6 hgrow6
        rw [bv_snoc] at hown6
        have HO6 : Hid (w6.ownsRow w''.heap.size 5 1 (.slice (some ⟨w4.heap.size, 0, none⟩) (i + 1) (k + 1 + len0)) (i + 1) (bv (List.replicate (i + 1) 96))) := hown6
        have HB6 : Hid (Below w''.heap.size w'' w6 ∧ w''.heap.size ≤ w6.heap.size) := below_one HBr.out.1 HBr.out.2 HG.out hgrow6
        clear hown6 hgrow6 ho
        go_wp2
        go_roundw
        case rel => exact ⟨i + 1, by omega, by go_num, rfl, HO6.out, HB6.out.1, HB6.out.2⟩
        case measure => simp [intOf]; omega
      · obtain rfl : i = k := by omega
        have HBr : Hid (Below w''.heap.size w'' wr ∧ w''.heap.size ≤ wr.heap.size) := ⟨hb, hbs⟩
        clear hb hbs
        go_wp2_with (at_builtin; refine wpList_append_fits _ rfl (.tmp 68) (.tmp 69) 22 rfl _ 5 i0 1 Trym.underlying22 hi hz1 _ _ _ _ rfl (ho.alloc _) ⟨wr.heap.size, 0, none⟩ 1 1 (bv [97]) rfl rfl (new_cell _ _) (bv_one _) (by omega) ?_)
        intro w6 hown6 hgrow6
        have HB6 : Hid (Below w''.heap.size w'' w6 ∧ w''.heap.size ≤ w6.heap.size) := below_one HBr.out.1 HBr.out.2 HG.out hgrow6
        have HC6 : Hid (∀ ad, a' = some ad → ∀ j u, (bv l)[j]? = some u → w6.cell? (ad.add j) = some u) := (hB'.later (Nat.le_refl _) HB6.out.1).cells
        clear hgrow6 ho
        go_wp2_with (at_builtin; refine wpList_append_fits_any _ rfl (.tmp 71) (.tmp 72) 22 rfl _ 5 i0 1 Trym.underlying22 hi hz1 _ _ _ _ rfl hown6 a' len0 cap' (bv l) rfl HN.out (owns_none ho1) HC6.out (bv_one _) (by omega) ?_)
        intro w7 hown7 hgrow7
        have HB7 : Hid (Below w''.heap.size w'' w7 ∧ w''.heap.size ≤ w7.heap.size) := below_append HB6.out.1 HB6.out.2 HG.out hgrow7
        rw [bv_append, bv_append] at hown7
        have HO7 : Hid (w7.ownsRow w''.heap.size 5 1 (.slice (some ⟨w4.heap.size, 0, none⟩) (i + 1 + len0) (i + 1 + len0)) (i + 1 + len0) (bv (List.replicate i 96 ++ 97 :: l))) := hown7
        clear hown7 hgrow7 hown6
        go_wp2_with (first | (go_at_call 19; refine (closingRun_own _ _ _ _ (List.replicate i 96 ++ 97 :: l) _ 0 _ HO7.out (Md.scan_front i (by omega) l) HL3.out).mono ?_; rintro e w8 ⟨rfl, rfl⟩) | go_in)
        go_ret
        exact ⟨rfl, hbel.trans (HB7.out.1.mono hbel.size)⟩

end Go.Proofs.Qxb6605370aMods
