/-
  SEAT b6606062aM: zzB1ExpModel walked.
-/
import Derived.Test.Qxb6606062aModsPlace
namespace Go.Proofs.Qxb6606062aMods
open Go.RowKit

theorem zn_yes (l : List Int) (k : Nat) (h : k < l.length) (hx : l.getD k 0 = 48) : Nu.zn (l.drop k) = Nu.zn (l.drop (k + 1)) + 1 := by
  rw [drop_cons l k h, hx]; simp [Nu.zn]
theorem zn_no (l : List Int) (k : Nat) (h : k < l.length) (hx : l.getD k 0 ≠ 48) : Nu.zn (l.drop k) = 0 := by
  rw [drop_cons l k h]; simp only [Nu.zn, hx, if_false]

theorem seg_take (l : List Int) (a b : Nat) : seg l a b = (l.drop a).take (b - a) := by unfold seg; rw [List.drop_take]
theorem seg_len (l : List Int) (a b : Nat) : (seg l a b).length ≤ b - a := by rw [seg_take, List.length_take]; omega
theorem seg_cnt_le (l : List Int) (a b m : Nat) (h : b - a ≤ m) : Nu.cnt (seg l a b) ≤ m := by
  have := seg_len l a b
  have := Nu.cnt_le (seg l a b)
  omega
theorem pv_small (l : List Int) (a b : Nat) (h : b - a ≤ 14) : 0 ≤ Nu.pv (seg l a b) ∧ Nu.pv (seg l a b) ≤ 100000000000000 := by
  have h1 := Nu.pv_bd (seg l a b)
  have h2 := Nu.pow_mono _ _ (seg_cnt_le l a b 14 h)
  have h3 : (10 : Int) ^ 14 = 100000000000000 := by decide
  rw [h3] at h2
  omega

/-- The text from its first significant digit on. -/
theorem dn_behind (l : List Int) (st L Z : Nat) (hL : L = st + Nu.dn (l.drop st)) (hZ : Z = st + Nu.zn (l.drop st)) : Nu.dn (l.drop Z) = L - Z ∧ Z ≤ L := by
  have h1 := Nu.zn_le (l.drop st)
  have h2 := Nu.dn_drop (l.drop st) (Nu.zn (l.drop st)) h1
  rw [List.drop_drop, ← hZ] at h2
  exact ⟨by omega, by omega⟩
theorem ev_behind (l : List Int) (st Z : Nat) (hZ : Z = st + Nu.zn (l.drop st)) : Nu.ev (l.drop st) 0 = Nu.tab (l.drop Z) := by
  rw [Nu.ev_table, List.drop_drop, ← hZ]
theorem table_all (l : List Int) (st L Z : Nat) (hL : L = st + Nu.dn (l.drop st)) (hZ : Z = st + Nu.zn (l.drop st)) (h : L - Z ≤ 13) : Nu.ev (l.drop st) 0 = Nu.pv (seg l Z L) := by
  have hd := (dn_behind l st L Z hL hZ).1
  rw [ev_behind l st Z hZ, Nu.tab, hd, if_pos h, seg_take]
theorem table_13 (l : List Int) (st L Z : Nat) (hL : L = st + Nu.dn (l.drop st)) (hZ : Z = st + Nu.zn (l.drop st)) (h : ¬ L - Z ≤ 13) (hb : ¬ Nu.pv (seg l Z (Z + 13)) < 1099511627776) : Nu.ev (l.drop st) 0 = Nu.pv (seg l Z (Z + 13)) := by
  have hd := (dn_behind l st L Z hL hZ).1
  rw [seg_take, Nat.add_sub_cancel_left] at hb ⊢
  rw [ev_behind l st Z hZ, Nu.tab, hd, if_neg h, if_neg hb]
theorem table_14 (l : List Int) (st L Z : Nat) (hL : L = st + Nu.dn (l.drop st)) (hZ : Z = st + Nu.zn (l.drop st)) (h : ¬ L - Z ≤ 13) (hb : Nu.pv (seg l Z (Z + 13)) < 1099511627776) : Nu.ev (l.drop st) 0 = Nu.pv (seg l Z (Z + 14)) := by
  have hd := (dn_behind l st L Z hL hZ).1
  rw [seg_take, Nat.add_sub_cancel_left] at hb ⊢
  rw [ev_behind l st Z hZ, Nu.tab, hd, if_neg h, if_pos hb]

set_option maxHeartbeats 3200000 in
theorem expModel_minus (b off n cap : Nat) (l : List Int) (w : World) (HN : Hid (n = l.length)) (hn1 : n ≤ l.length) (hn2 : l.length ≤ n) (h0 : 0 < l.length) (HC : Hid (∀ i, i < l.length → w.cell? ⟨b, off + i, none⟩ = some (.int .u8 (l.getD i 0)))) (hl : l.length ≤ 4194304) (hx : l.getD 0 0 = 45) :
    Calls Trym.prog 10 #[.slice (some ⟨b, off, none⟩) n cap] w fun e w' => e = .returned (.tuple #[.int .i64 (Nu.exE l), .int .i64 (Nu.exL l)]) ∧ w = w' := by
  have HB : Hid (Bs w (some ⟨b, off, none⟩) l) := .inr ⟨b, off, rfl, HC.out⟩
  have hcell := HC.out 0 h0
  rw [hx, Nat.add_zero] at hcell
  have hself : 45 :: l.drop 1 = l := by have := drop_cons l 0 h0; rw [hx] at this; exact this.symm
  have hxe : Nu.exE l = Nu.exE (45 :: l.drop 1) := by rw [hself]
  have hxl : Nu.exL l = Nu.exL (45 :: l.drop 1) := by rw [hself]
  obtain ⟨E, hE⟩ : ∃ E, E = Nu.ev (l.drop 1) 0 := ⟨_, rfl⟩
  obtain ⟨L, hL⟩ : ∃ L, L = 1 + Nu.dn (l.drop 1) := ⟨_, rfl⟩
  obtain ⟨Z, hZ⟩ : ∃ Z, Z = 1 + Nu.zn (l.drop 1) := ⟨_, rfl⟩
  have HE0 : Hid (E = Nu.ev (l.drop 1) 0) := hE
  have HL0 : Hid (L = 1 + Nu.dn (l.drop 1)) := hL
  have HZ0 : Hid (Z = 1 + Nu.zn (l.drop 1)) := hZ
  have HX : Hid (Nu.exE l = -E) := by show Nu.exE l = -E; rw [hxe, hE]; exact Nu.exE_minus _
  have HXL : Hid (Nu.exL l = L) := by show Nu.exL l = L; rw [hxl, hL]; exact Nu.exL_minus _
  have hdb := dn_behind l 1 L Z hL hZ
  have hdl := Nu.dn_le (l.drop 1)
  rw [List.length_drop] at hdl
  have hZL : Z ≤ L := hdb.2
  have hLl : L ≤ l.length := by omega
  have hLst : 1 ≤ L := by omega
  have HDL : Hid (Nu.dn (l.drop L) = 0) := by have := Nu.dn_drop (l.drop 1) (Nu.dn (l.drop 1)) (Nat.le_refl _); rw [List.drop_drop, ← hL] at this; show Nu.dn (l.drop L) = 0; omega
  clear hdb hdl hE hL hZ hxe hxl hself hx
  go_enter Trym.func10, Trym.ntmps10
  go_wp2
  go_loop [6] (fun ee => ∃ k : Nat, 1 ≤ k ∧ k ≤ l.length ∧ ee = .int .i64 k ∧ L = k + Nu.dn (l.drop k)) (fun ee => l.length - (intOf ee).toNat)
  case atStart => exact ⟨1, by omega, by omega, rfl, HL0.out⟩
  case round =>
    obtain ⟨k, hk1, hk2, rfl, hL⟩ := hrel
    have HL : Hid (L = k + Nu.dn (l.drop k)) := hL
    clear hL
    by_cases hlt : k < l.length
    · obtain ⟨y, hy⟩ : ∃ y, y = l.getD k 0 := ⟨_, rfl⟩
      have hcy := HC.out k hlt
      rw [← hy] at hcy
      have HY : Hid (y = l.getD k 0) := hy
      clear hy
      by_cases hd : 48 ≤ y ∧ y ≤ 57
      · have HL1 : Hid (L = (k + 1) + Nu.dn (l.drop (k + 1))) := by have := HL.out; rw [dn_yes l k y hlt HY.out hd.1 hd.2] at this; show L = (k + 1) + Nu.dn (l.drop (k + 1)); omega
        obtain ⟨hd1, hd2⟩ := hd
        go_wp2_with (go_at_call 18; refine (isDigit_yes _ hd1 hd2 _).mono ?_; rintro e w'' ⟨rfl, rfl⟩)
        go_round
        case rel => exact ⟨k + 1, by omega, by omega, by go_num, HL1.out⟩
        case measure => simp [intOf]; omega
      · have hkL : k = L := by have := HL.out; rw [dn_no l k y hlt HY.out hd] at this; omega
        have HDD : Hid (¬ (48 ≤ y ∧ y ≤ 57)) := hd
        clear hd
        subst hkL
        go_wp2_with (go_at_call 18; refine (isDigit_no _ HDD.out _).mono ?_; rintro e w'' ⟨rfl, rfl⟩)
        go_loop [7] (fun ss => ∃ q : Nat, q ≤ k ∧ ss = .int .i64 q ∧ Z = q + Nu.zn (l.drop q)) (fun ss => k - (intOf ss).toNat)
        case atStart => exact ⟨1, by omega, rfl, HZ0.out⟩
        case round =>
          obtain ⟨q, hq, rfl, hZ⟩ := hrel
          have HZ : Hid (Z = q + Nu.zn (l.drop q)) := hZ
          clear hZ
          by_cases hlt2 : q < k
          · obtain ⟨z, hz⟩ : ∃ z, z = l.getD q 0 := ⟨_, rfl⟩
            have hcz := HC.out q (by omega)
            rw [← hz] at hcz
            by_cases hz48 : z = 48
            · have HZ1 : Hid (Z = (q + 1) + Nu.zn (l.drop (q + 1))) := by have := HZ.out; rw [zn_yes l q (by omega) (by rw [← hz]; exact hz48)] at this; show Z = (q + 1) + Nu.zn (l.drop (q + 1)); omega
              subst hz48
              clear hz
              go_wp2
              go_round
              case rel => exact ⟨q + 1, by omega, by go_num, HZ1.out⟩
              case measure => simp [intOf]; omega
            · have hq3 : q = Z := by have := HZ.out; rw [zn_no l q (by omega) (by rw [← hz]; exact hz48)] at this; omega
              have hn48 : (z == 48) = false := by simpa using hz48
              clear hz hz48
              subst hq3
              by_cases h13 : k - q ≤ 13
              · obtain ⟨V, hV⟩ : ∃ V, Nu.pv (seg l q k) = V := ⟨_, rfl⟩
                have HV : Hid (Nu.pv (seg l q k) = V) := hV
                have hbd := pv_small l q k (by omega)
                rw [hV] at hbd
                obtain ⟨hV0, hV1⟩ := hbd
                have HE1 : Hid (E = V) := by have := table_all l 1 k q HL0.out HZ0.out h13; show E = V; rw [HE0.out, this, hV]
                clear hV
                go_wp2_with (go_at_call 19; refine (placeValue_is _ _ _ q k _ _ V l _ HV.out rfl rfl HN.out HB.out hl (by omega) (by omega) (seg_cnt_le l q k 19 (by omega))).mono ?_; rintro e w'' ⟨rfl, rfl⟩)
                go_ret2
                exact ⟨ret_pair (by rw [HX.out, HE1.out]) (by rw [HXL.out]), rfl⟩
              · obtain ⟨V, hV⟩ : ∃ V, Nu.pv (seg l q (q + 13)) = V := ⟨_, rfl⟩
                have HV : Hid (Nu.pv (seg l q (q + 13)) = V) := hV
                have hbd := pv_small l q (q + 13) (by omega)
                rw [hV] at hbd
                obtain ⟨hV0, hV1⟩ := hbd
                by_cases hbig : V < 1099511627776
                · obtain ⟨V2, hV2⟩ : ∃ V2, Nu.pv (seg l q (q + 14)) = V2 := ⟨_, rfl⟩
                  have HV2 : Hid (Nu.pv (seg l q (q + 14)) = V2) := hV2
                  have hbd2 := pv_small l q (q + 14) (by omega)
                  rw [hV2] at hbd2
                  obtain ⟨hV20, hV21⟩ := hbd2
                  have HE1 : Hid (E = V2) := by have := table_14 l 1 k q HL0.out HZ0.out h13 (by rw [hV]; exact hbig); show E = V2; rw [HE0.out, this, hV2]
                  clear hV hV2
                  go_wp2_with (first | (go_at_call 19; refine (placeValue_is _ _ _ q (q + 13) _ _ V l _ HV.out rfl (by omega) HN.out HB.out hl (by omega) (by omega) (seg_cnt_le l q (q + 13) 19 (by omega))).mono ?_; rintro e w'' ⟨rfl, rfl⟩) | (go_at_call 19; refine (placeValue_is _ _ _ q (q + 14) _ _ V2 l _ HV2.out rfl (by omega) HN.out HB.out hl (by omega) (by omega) (seg_cnt_le l q (q + 14) 19 (by omega))).mono ?_; rintro e w'' ⟨rfl, rfl⟩))
                  go_ret2
                  exact ⟨ret_pair (by rw [HX.out, HE1.out]) (by rw [HXL.out]), rfl⟩
                · have HE1 : Hid (E = V) := by have := table_13 l 1 k q HL0.out HZ0.out h13 (by rw [hV]; exact hbig); show E = V; rw [HE0.out, this, hV]
                  clear hV
                  go_wp2_with (go_at_call 19; refine (placeValue_is _ _ _ q (q + 13) _ _ V l _ HV.out rfl (by omega) HN.out HB.out hl (by omega) (by omega) (seg_cnt_le l q (q + 13) 19 (by omega))).mono ?_; rintro e w'' ⟨rfl, rfl⟩)
                  go_ret2
                  exact ⟨ret_pair (by rw [HX.out, HE1.out]) (by rw [HXL.out]), rfl⟩
          · have hq3 : q = Z := by have := HZ.out; rw [Nu.zn_stop _ (by rw [show q = k by omega]; exact HDL.out)] at this; omega
            subst hq3
            have h13 : k - q ≤ 13 := by omega
            obtain ⟨V, hV⟩ : ∃ V, Nu.pv (seg l q k) = V := ⟨_, rfl⟩
            have HV : Hid (Nu.pv (seg l q k) = V) := hV
            have hbd := pv_small l q k (by omega)
            rw [hV] at hbd
            obtain ⟨hV0, hV1⟩ := hbd
            have HE1 : Hid (E = V) := by have := table_all l 1 k q HL0.out HZ0.out h13; show E = V; rw [HE0.out, this, hV]
            clear hV
            go_wp2_with (go_at_call 19; refine (placeValue_is _ _ _ q k _ _ V l _ HV.out rfl rfl HN.out HB.out hl (by omega) (by omega) (seg_cnt_le l q k 19 (by omega))).mono ?_; rintro e w'' ⟨rfl, rfl⟩)
            go_ret2
            exact ⟨ret_pair (by rw [HX.out, HE1.out]) (by rw [HXL.out]), rfl⟩
    · have hkL : k = L := by have := HL.out; rw [List.drop_of_length_le (show l.length ≤ k by omega)] at this; exact this.symm
      subst hkL
      go_wp2
      go_loop [7] (fun ss => ∃ q : Nat, q ≤ k ∧ ss = .int .i64 q ∧ Z = q + Nu.zn (l.drop q)) (fun ss => k - (intOf ss).toNat)
      case atStart => exact ⟨1, by omega, rfl, HZ0.out⟩
      case round =>
        obtain ⟨q, hq, rfl, hZ⟩ := hrel
        have HZ : Hid (Z = q + Nu.zn (l.drop q)) := hZ
        clear hZ
        by_cases hlt2 : q < k
        · obtain ⟨z, hz⟩ : ∃ z, z = l.getD q 0 := ⟨_, rfl⟩
          have hcz := HC.out q (by omega)
          rw [← hz] at hcz
          by_cases hz48 : z = 48
          · have HZ1 : Hid (Z = (q + 1) + Nu.zn (l.drop (q + 1))) := by have := HZ.out; rw [zn_yes l q (by omega) (by rw [← hz]; exact hz48)] at this; show Z = (q + 1) + Nu.zn (l.drop (q + 1)); omega
            subst hz48
            clear hz
            go_wp2
            go_round
            case rel => exact ⟨q + 1, by omega, by go_num, HZ1.out⟩
            case measure => simp [intOf]; omega
          · have hq3 : q = Z := by have := HZ.out; rw [zn_no l q (by omega) (by rw [← hz]; exact hz48)] at this; omega
            have hn48 : (z == 48) = false := by simpa using hz48
            clear hz hz48
            subst hq3
            by_cases h13 : k - q ≤ 13
            · obtain ⟨V, hV⟩ : ∃ V, Nu.pv (seg l q k) = V := ⟨_, rfl⟩
              have HV : Hid (Nu.pv (seg l q k) = V) := hV
              have hbd := pv_small l q k (by omega)
              rw [hV] at hbd
              obtain ⟨hV0, hV1⟩ := hbd
              have HE1 : Hid (E = V) := by have := table_all l 1 k q HL0.out HZ0.out h13; show E = V; rw [HE0.out, this, hV]
              clear hV
              go_wp2_with (go_at_call 19; refine (placeValue_is _ _ _ q k _ _ V l _ HV.out rfl rfl HN.out HB.out hl (by omega) (by omega) (seg_cnt_le l q k 19 (by omega))).mono ?_; rintro e w'' ⟨rfl, rfl⟩)
              go_ret2
              exact ⟨ret_pair (by rw [HX.out, HE1.out]) (by rw [HXL.out]), rfl⟩
            · obtain ⟨V, hV⟩ : ∃ V, Nu.pv (seg l q (q + 13)) = V := ⟨_, rfl⟩
              have HV : Hid (Nu.pv (seg l q (q + 13)) = V) := hV
              have hbd := pv_small l q (q + 13) (by omega)
              rw [hV] at hbd
              obtain ⟨hV0, hV1⟩ := hbd
              by_cases hbig : V < 1099511627776
              · obtain ⟨V2, hV2⟩ : ∃ V2, Nu.pv (seg l q (q + 14)) = V2 := ⟨_, rfl⟩
                have HV2 : Hid (Nu.pv (seg l q (q + 14)) = V2) := hV2
                have hbd2 := pv_small l q (q + 14) (by omega)
                rw [hV2] at hbd2
                obtain ⟨hV20, hV21⟩ := hbd2
                have HE1 : Hid (E = V2) := by have := table_14 l 1 k q HL0.out HZ0.out h13 (by rw [hV]; exact hbig); show E = V2; rw [HE0.out, this, hV2]
                clear hV hV2
                go_wp2_with (first | (go_at_call 19; refine (placeValue_is _ _ _ q (q + 13) _ _ V l _ HV.out rfl (by omega) HN.out HB.out hl (by omega) (by omega) (seg_cnt_le l q (q + 13) 19 (by omega))).mono ?_; rintro e w'' ⟨rfl, rfl⟩) | (go_at_call 19; refine (placeValue_is _ _ _ q (q + 14) _ _ V2 l _ HV2.out rfl (by omega) HN.out HB.out hl (by omega) (by omega) (seg_cnt_le l q (q + 14) 19 (by omega))).mono ?_; rintro e w'' ⟨rfl, rfl⟩))
                go_ret2
                exact ⟨ret_pair (by rw [HX.out, HE1.out]) (by rw [HXL.out]), rfl⟩
              · have HE1 : Hid (E = V) := by have := table_13 l 1 k q HL0.out HZ0.out h13 (by rw [hV]; exact hbig); show E = V; rw [HE0.out, this, hV]
                clear hV
                go_wp2_with (go_at_call 19; refine (placeValue_is _ _ _ q (q + 13) _ _ V l _ HV.out rfl (by omega) HN.out HB.out hl (by omega) (by omega) (seg_cnt_le l q (q + 13) 19 (by omega))).mono ?_; rintro e w'' ⟨rfl, rfl⟩)
                go_ret2
                exact ⟨ret_pair (by rw [HX.out, HE1.out]) (by rw [HXL.out]), rfl⟩
        · have hq3 : q = Z := by have := HZ.out; rw [Nu.zn_stop _ (by rw [show q = k by omega]; exact HDL.out)] at this; omega
          subst hq3
          have h13 : k - q ≤ 13 := by omega
          obtain ⟨V, hV⟩ : ∃ V, Nu.pv (seg l q k) = V := ⟨_, rfl⟩
          have HV : Hid (Nu.pv (seg l q k) = V) := hV
          have hbd := pv_small l q k (by omega)
          rw [hV] at hbd
          obtain ⟨hV0, hV1⟩ := hbd
          have HE1 : Hid (E = V) := by have := table_all l 1 k q HL0.out HZ0.out h13; show E = V; rw [HE0.out, this, hV]
          clear hV
          go_wp2_with (go_at_call 19; refine (placeValue_is _ _ _ q k _ _ V l _ HV.out rfl rfl HN.out HB.out hl (by omega) (by omega) (seg_cnt_le l q k 19 (by omega))).mono ?_; rintro e w'' ⟨rfl, rfl⟩)
          go_ret2
          exact ⟨ret_pair (by rw [HX.out, HE1.out]) (by rw [HXL.out]), rfl⟩

set_option maxHeartbeats 3200000 in
theorem expModel_plus (b off n cap : Nat) (l : List Int) (w : World) (HN : Hid (n = l.length)) (hn1 : n ≤ l.length) (hn2 : l.length ≤ n) (h0 : 0 < l.length) (HC : Hid (∀ i, i < l.length → w.cell? ⟨b, off + i, none⟩ = some (.int .u8 (l.getD i 0)))) (hl : l.length ≤ 4194304) (hx : l.getD 0 0 = 43) :
    Calls Trym.prog 10 #[.slice (some ⟨b, off, none⟩) n cap] w fun e w' => e = .returned (.tuple #[.int .i64 (Nu.exE l), .int .i64 (Nu.exL l)]) ∧ w = w' := by
  have HB : Hid (Bs w (some ⟨b, off, none⟩) l) := .inr ⟨b, off, rfl, HC.out⟩
  have hcell := HC.out 0 h0
  rw [hx, Nat.add_zero] at hcell
  have hself : 43 :: l.drop 1 = l := by have := drop_cons l 0 h0; rw [hx] at this; exact this.symm
  have hxe : Nu.exE l = Nu.exE (43 :: l.drop 1) := by rw [hself]
  have hxl : Nu.exL l = Nu.exL (43 :: l.drop 1) := by rw [hself]
  obtain ⟨E, hE⟩ : ∃ E, E = Nu.ev (l.drop 1) 0 := ⟨_, rfl⟩
  obtain ⟨L, hL⟩ : ∃ L, L = 1 + Nu.dn (l.drop 1) := ⟨_, rfl⟩
  obtain ⟨Z, hZ⟩ : ∃ Z, Z = 1 + Nu.zn (l.drop 1) := ⟨_, rfl⟩
  have HE0 : Hid (E = Nu.ev (l.drop 1) 0) := hE
  have HL0 : Hid (L = 1 + Nu.dn (l.drop 1)) := hL
  have HZ0 : Hid (Z = 1 + Nu.zn (l.drop 1)) := hZ
  have HX : Hid (Nu.exE l = E) := by show Nu.exE l = E; rw [hxe, hE]; exact Nu.exE_plus _
  have HXL : Hid (Nu.exL l = L) := by show Nu.exL l = L; rw [hxl, hL]; exact Nu.exL_plus _
  have hdb := dn_behind l 1 L Z hL hZ
  have hdl := Nu.dn_le (l.drop 1)
  rw [List.length_drop] at hdl
  have hZL : Z ≤ L := hdb.2
  have hLl : L ≤ l.length := by omega
  have hLst : 1 ≤ L := by omega
  have HDL : Hid (Nu.dn (l.drop L) = 0) := by have := Nu.dn_drop (l.drop 1) (Nu.dn (l.drop 1)) (Nat.le_refl _); rw [List.drop_drop, ← hL] at this; show Nu.dn (l.drop L) = 0; omega
  clear hdb hdl hE hL hZ hxe hxl hself hx
  go_enter Trym.func10, Trym.ntmps10
  go_wp2
  go_loop [6] (fun ee => ∃ k : Nat, 1 ≤ k ∧ k ≤ l.length ∧ ee = .int .i64 k ∧ L = k + Nu.dn (l.drop k)) (fun ee => l.length - (intOf ee).toNat)
  case atStart => exact ⟨1, by omega, by omega, rfl, HL0.out⟩
  case round =>
    obtain ⟨k, hk1, hk2, rfl, hL⟩ := hrel
    have HL : Hid (L = k + Nu.dn (l.drop k)) := hL
    clear hL
    by_cases hlt : k < l.length
    · obtain ⟨y, hy⟩ : ∃ y, y = l.getD k 0 := ⟨_, rfl⟩
      have hcy := HC.out k hlt
      rw [← hy] at hcy
      have HY : Hid (y = l.getD k 0) := hy
      clear hy
      by_cases hd : 48 ≤ y ∧ y ≤ 57
      · have HL1 : Hid (L = (k + 1) + Nu.dn (l.drop (k + 1))) := by have := HL.out; rw [dn_yes l k y hlt HY.out hd.1 hd.2] at this; show L = (k + 1) + Nu.dn (l.drop (k + 1)); omega
        obtain ⟨hd1, hd2⟩ := hd
        go_wp2_with (go_at_call 18; refine (isDigit_yes _ hd1 hd2 _).mono ?_; rintro e w'' ⟨rfl, rfl⟩)
        go_round
        case rel => exact ⟨k + 1, by omega, by omega, by go_num, HL1.out⟩
        case measure => simp [intOf]; omega
      · have hkL : k = L := by have := HL.out; rw [dn_no l k y hlt HY.out hd] at this; omega
        have HDD : Hid (¬ (48 ≤ y ∧ y ≤ 57)) := hd
        clear hd
        subst hkL
        go_wp2_with (go_at_call 18; refine (isDigit_no _ HDD.out _).mono ?_; rintro e w'' ⟨rfl, rfl⟩)
        go_loop [7] (fun ss => ∃ q : Nat, q ≤ k ∧ ss = .int .i64 q ∧ Z = q + Nu.zn (l.drop q)) (fun ss => k - (intOf ss).toNat)
        case atStart => exact ⟨1, by omega, rfl, HZ0.out⟩
        case round =>
          obtain ⟨q, hq, rfl, hZ⟩ := hrel
          have HZ : Hid (Z = q + Nu.zn (l.drop q)) := hZ
          clear hZ
          by_cases hlt2 : q < k
          · obtain ⟨z, hz⟩ : ∃ z, z = l.getD q 0 := ⟨_, rfl⟩
            have hcz := HC.out q (by omega)
            rw [← hz] at hcz
            by_cases hz48 : z = 48
            · have HZ1 : Hid (Z = (q + 1) + Nu.zn (l.drop (q + 1))) := by have := HZ.out; rw [zn_yes l q (by omega) (by rw [← hz]; exact hz48)] at this; show Z = (q + 1) + Nu.zn (l.drop (q + 1)); omega
              subst hz48
              clear hz
              go_wp2
              go_round
              case rel => exact ⟨q + 1, by omega, by go_num, HZ1.out⟩
              case measure => simp [intOf]; omega
            · have hq3 : q = Z := by have := HZ.out; rw [zn_no l q (by omega) (by rw [← hz]; exact hz48)] at this; omega
              have hn48 : (z == 48) = false := by simpa using hz48
              clear hz hz48
              subst hq3
              by_cases h13 : k - q ≤ 13
              · obtain ⟨V, hV⟩ : ∃ V, Nu.pv (seg l q k) = V := ⟨_, rfl⟩
                have HV : Hid (Nu.pv (seg l q k) = V) := hV
                have hbd := pv_small l q k (by omega)
                rw [hV] at hbd
                obtain ⟨hV0, hV1⟩ := hbd
                have HE1 : Hid (E = V) := by have := table_all l 1 k q HL0.out HZ0.out h13; show E = V; rw [HE0.out, this, hV]
                clear hV
                go_wp2_with (go_at_call 19; refine (placeValue_is _ _ _ q k _ _ V l _ HV.out rfl rfl HN.out HB.out hl (by omega) (by omega) (seg_cnt_le l q k 19 (by omega))).mono ?_; rintro e w'' ⟨rfl, rfl⟩)
                go_ret2
                exact ⟨ret_pair (by rw [HX.out, HE1.out]) (by rw [HXL.out]), rfl⟩
              · obtain ⟨V, hV⟩ : ∃ V, Nu.pv (seg l q (q + 13)) = V := ⟨_, rfl⟩
                have HV : Hid (Nu.pv (seg l q (q + 13)) = V) := hV
                have hbd := pv_small l q (q + 13) (by omega)
                rw [hV] at hbd
                obtain ⟨hV0, hV1⟩ := hbd
                by_cases hbig : V < 1099511627776
                · obtain ⟨V2, hV2⟩ : ∃ V2, Nu.pv (seg l q (q + 14)) = V2 := ⟨_, rfl⟩
                  have HV2 : Hid (Nu.pv (seg l q (q + 14)) = V2) := hV2
                  have hbd2 := pv_small l q (q + 14) (by omega)
                  rw [hV2] at hbd2
                  obtain ⟨hV20, hV21⟩ := hbd2
                  have HE1 : Hid (E = V2) := by have := table_14 l 1 k q HL0.out HZ0.out h13 (by rw [hV]; exact hbig); show E = V2; rw [HE0.out, this, hV2]
                  clear hV hV2
                  go_wp2_with (first | (go_at_call 19; refine (placeValue_is _ _ _ q (q + 13) _ _ V l _ HV.out rfl (by omega) HN.out HB.out hl (by omega) (by omega) (seg_cnt_le l q (q + 13) 19 (by omega))).mono ?_; rintro e w'' ⟨rfl, rfl⟩) | (go_at_call 19; refine (placeValue_is _ _ _ q (q + 14) _ _ V2 l _ HV2.out rfl (by omega) HN.out HB.out hl (by omega) (by omega) (seg_cnt_le l q (q + 14) 19 (by omega))).mono ?_; rintro e w'' ⟨rfl, rfl⟩))
                  go_ret2
                  exact ⟨ret_pair (by rw [HX.out, HE1.out]) (by rw [HXL.out]), rfl⟩
                · have HE1 : Hid (E = V) := by have := table_13 l 1 k q HL0.out HZ0.out h13 (by rw [hV]; exact hbig); show E = V; rw [HE0.out, this, hV]
                  clear hV
                  go_wp2_with (go_at_call 19; refine (placeValue_is _ _ _ q (q + 13) _ _ V l _ HV.out rfl (by omega) HN.out HB.out hl (by omega) (by omega) (seg_cnt_le l q (q + 13) 19 (by omega))).mono ?_; rintro e w'' ⟨rfl, rfl⟩)
                  go_ret2
                  exact ⟨ret_pair (by rw [HX.out, HE1.out]) (by rw [HXL.out]), rfl⟩
          · have hq3 : q = Z := by have := HZ.out; rw [Nu.zn_stop _ (by rw [show q = k by omega]; exact HDL.out)] at this; omega
            subst hq3
            have h13 : k - q ≤ 13 := by omega
            obtain ⟨V, hV⟩ : ∃ V, Nu.pv (seg l q k) = V := ⟨_, rfl⟩
            have HV : Hid (Nu.pv (seg l q k) = V) := hV
            have hbd := pv_small l q k (by omega)
            rw [hV] at hbd
            obtain ⟨hV0, hV1⟩ := hbd
            have HE1 : Hid (E = V) := by have := table_all l 1 k q HL0.out HZ0.out h13; show E = V; rw [HE0.out, this, hV]
            clear hV
            go_wp2_with (go_at_call 19; refine (placeValue_is _ _ _ q k _ _ V l _ HV.out rfl rfl HN.out HB.out hl (by omega) (by omega) (seg_cnt_le l q k 19 (by omega))).mono ?_; rintro e w'' ⟨rfl, rfl⟩)
            go_ret2
            exact ⟨ret_pair (by rw [HX.out, HE1.out]) (by rw [HXL.out]), rfl⟩
    · have hkL : k = L := by have := HL.out; rw [List.drop_of_length_le (show l.length ≤ k by omega)] at this; exact this.symm
      subst hkL
      go_wp2
      go_loop [7] (fun ss => ∃ q : Nat, q ≤ k ∧ ss = .int .i64 q ∧ Z = q + Nu.zn (l.drop q)) (fun ss => k - (intOf ss).toNat)
      case atStart => exact ⟨1, by omega, rfl, HZ0.out⟩
      case round =>
        obtain ⟨q, hq, rfl, hZ⟩ := hrel
        have HZ : Hid (Z = q + Nu.zn (l.drop q)) := hZ
        clear hZ
        by_cases hlt2 : q < k
        · obtain ⟨z, hz⟩ : ∃ z, z = l.getD q 0 := ⟨_, rfl⟩
          have hcz := HC.out q (by omega)
          rw [← hz] at hcz
          by_cases hz48 : z = 48
          · have HZ1 : Hid (Z = (q + 1) + Nu.zn (l.drop (q + 1))) := by have := HZ.out; rw [zn_yes l q (by omega) (by rw [← hz]; exact hz48)] at this; show Z = (q + 1) + Nu.zn (l.drop (q + 1)); omega
            subst hz48
            clear hz
            go_wp2
            go_round
            case rel => exact ⟨q + 1, by omega, by go_num, HZ1.out⟩
            case measure => simp [intOf]; omega
          · have hq3 : q = Z := by have := HZ.out; rw [zn_no l q (by omega) (by rw [← hz]; exact hz48)] at this; omega
            have hn48 : (z == 48) = false := by simpa using hz48
            clear hz hz48
            subst hq3
            by_cases h13 : k - q ≤ 13
            · obtain ⟨V, hV⟩ : ∃ V, Nu.pv (seg l q k) = V := ⟨_, rfl⟩
              have HV : Hid (Nu.pv (seg l q k) = V) := hV
              have hbd := pv_small l q k (by omega)
              rw [hV] at hbd
              obtain ⟨hV0, hV1⟩ := hbd
              have HE1 : Hid (E = V) := by have := table_all l 1 k q HL0.out HZ0.out h13; show E = V; rw [HE0.out, this, hV]
              clear hV
              go_wp2_with (go_at_call 19; refine (placeValue_is _ _ _ q k _ _ V l _ HV.out rfl rfl HN.out HB.out hl (by omega) (by omega) (seg_cnt_le l q k 19 (by omega))).mono ?_; rintro e w'' ⟨rfl, rfl⟩)
              go_ret2
              exact ⟨ret_pair (by rw [HX.out, HE1.out]) (by rw [HXL.out]), rfl⟩
            · obtain ⟨V, hV⟩ : ∃ V, Nu.pv (seg l q (q + 13)) = V := ⟨_, rfl⟩
              have HV : Hid (Nu.pv (seg l q (q + 13)) = V) := hV
              have hbd := pv_small l q (q + 13) (by omega)
              rw [hV] at hbd
              obtain ⟨hV0, hV1⟩ := hbd
              by_cases hbig : V < 1099511627776
              · obtain ⟨V2, hV2⟩ : ∃ V2, Nu.pv (seg l q (q + 14)) = V2 := ⟨_, rfl⟩
                have HV2 : Hid (Nu.pv (seg l q (q + 14)) = V2) := hV2
                have hbd2 := pv_small l q (q + 14) (by omega)
                rw [hV2] at hbd2
                obtain ⟨hV20, hV21⟩ := hbd2
                have HE1 : Hid (E = V2) := by have := table_14 l 1 k q HL0.out HZ0.out h13 (by rw [hV]; exact hbig); show E = V2; rw [HE0.out, this, hV2]
                clear hV hV2
                go_wp2_with (first | (go_at_call 19; refine (placeValue_is _ _ _ q (q + 13) _ _ V l _ HV.out rfl (by omega) HN.out HB.out hl (by omega) (by omega) (seg_cnt_le l q (q + 13) 19 (by omega))).mono ?_; rintro e w'' ⟨rfl, rfl⟩) | (go_at_call 19; refine (placeValue_is _ _ _ q (q + 14) _ _ V2 l _ HV2.out rfl (by omega) HN.out HB.out hl (by omega) (by omega) (seg_cnt_le l q (q + 14) 19 (by omega))).mono ?_; rintro e w'' ⟨rfl, rfl⟩))
                go_ret2
                exact ⟨ret_pair (by rw [HX.out, HE1.out]) (by rw [HXL.out]), rfl⟩
              · have HE1 : Hid (E = V) := by have := table_13 l 1 k q HL0.out HZ0.out h13 (by rw [hV]; exact hbig); show E = V; rw [HE0.out, this, hV]
                clear hV
                go_wp2_with (go_at_call 19; refine (placeValue_is _ _ _ q (q + 13) _ _ V l _ HV.out rfl (by omega) HN.out HB.out hl (by omega) (by omega) (seg_cnt_le l q (q + 13) 19 (by omega))).mono ?_; rintro e w'' ⟨rfl, rfl⟩)
                go_ret2
                exact ⟨ret_pair (by rw [HX.out, HE1.out]) (by rw [HXL.out]), rfl⟩
        · have hq3 : q = Z := by have := HZ.out; rw [Nu.zn_stop _ (by rw [show q = k by omega]; exact HDL.out)] at this; omega
          subst hq3
          have h13 : k - q ≤ 13 := by omega
          obtain ⟨V, hV⟩ : ∃ V, Nu.pv (seg l q k) = V := ⟨_, rfl⟩
          have HV : Hid (Nu.pv (seg l q k) = V) := hV
          have hbd := pv_small l q k (by omega)
          rw [hV] at hbd
          obtain ⟨hV0, hV1⟩ := hbd
          have HE1 : Hid (E = V) := by have := table_all l 1 k q HL0.out HZ0.out h13; show E = V; rw [HE0.out, this, hV]
          clear hV
          go_wp2_with (go_at_call 19; refine (placeValue_is _ _ _ q k _ _ V l _ HV.out rfl rfl HN.out HB.out hl (by omega) (by omega) (seg_cnt_le l q k 19 (by omega))).mono ?_; rintro e w'' ⟨rfl, rfl⟩)
          go_ret2
          exact ⟨ret_pair (by rw [HX.out, HE1.out]) (by rw [HXL.out]), rfl⟩

set_option maxHeartbeats 3200000 in
theorem expModel_plain (b off n cap : Nat) (l : List Int) (w : World) (HN : Hid (n = l.length)) (hn1 : n ≤ l.length) (hn2 : l.length ≤ n) (h0 : 0 < l.length) (HC : Hid (∀ i, i < l.length → w.cell? ⟨b, off + i, none⟩ = some (.int .u8 (l.getD i 0)))) (hl : l.length ≤ 4194304) (hx1 : l.getD 0 0 ≠ 45) (hx2 : l.getD 0 0 ≠ 43) :
    Calls Trym.prog 10 #[.slice (some ⟨b, off, none⟩) n cap] w fun e w' => e = .returned (.tuple #[.int .i64 (Nu.exE l), .int .i64 (Nu.exL l)]) ∧ w = w' := by
  have HB : Hid (Bs w (some ⟨b, off, none⟩) l) := .inr ⟨b, off, rfl, HC.out⟩
  have hcell := HC.out 0 h0
  obtain ⟨x, hx⟩ : ∃ x, x = l.getD 0 0 := ⟨_, rfl⟩
  rw [← hx, Nat.add_zero] at hcell
  rw [← hx] at hx1 hx2
  have hn45 : (x == 45) = false := by simpa using hx1
  have hn43 : (x == 43) = false := by simpa using hx2
  have hself : x :: l.drop 1 = l := by have := drop_cons l 0 h0; rw [← hx] at this; exact this.symm
  have hun : Nu.unsigned l := fun c r h => by rw [← hself] at h; rw [← (List.cons.inj h).1]; exact ⟨hx1, hx2⟩
  obtain ⟨E, hE⟩ : ∃ E, E = Nu.ev (l.drop 0) 0 := ⟨_, rfl⟩
  obtain ⟨L, hL⟩ : ∃ L, L = 0 + Nu.dn (l.drop 0) := ⟨_, rfl⟩
  obtain ⟨Z, hZ⟩ : ∃ Z, Z = 0 + Nu.zn (l.drop 0) := ⟨_, rfl⟩
  have HE0 : Hid (E = Nu.ev (l.drop 0) 0) := hE
  have HL0 : Hid (L = 0 + Nu.dn (l.drop 0)) := hL
  have HZ0 : Hid (Z = 0 + Nu.zn (l.drop 0)) := hZ
  have HX : Hid (Nu.exE l = E) := by show Nu.exE l = E; rw [hE]; exact Nu.exE_unsigned _ hun
  have HXL : Hid (Nu.exL l = L) := by show Nu.exL l = L; rw [hL, Nat.zero_add]; exact Nu.exL_unsigned _ hun
  have hdb := dn_behind l 0 L Z hL hZ
  have hdl := Nu.dn_le (l.drop 0)
  rw [List.length_drop] at hdl
  have hZL : Z ≤ L := hdb.2
  have hLl : L ≤ l.length := by omega
  have hLst : 0 ≤ L := by omega
  have HDL : Hid (Nu.dn (l.drop L) = 0) := by have := Nu.dn_drop (l.drop 0) (Nu.dn (l.drop 0)) (Nat.le_refl _); rw [List.drop_drop, ← hL] at this; show Nu.dn (l.drop L) = 0; omega
  clear hdb hdl hE hL hZ hself hun hx hx1 hx2
  go_enter Trym.func10, Trym.ntmps10
  go_wp2
  go_loop [6] (fun ee => ∃ k : Nat, 0 ≤ k ∧ k ≤ l.length ∧ ee = .int .i64 k ∧ L = k + Nu.dn (l.drop k)) (fun ee => l.length - (intOf ee).toNat)
  case atStart => exact ⟨0, by omega, by omega, rfl, HL0.out⟩
  case round =>
    obtain ⟨k, hk1, hk2, rfl, hL⟩ := hrel
    have HL : Hid (L = k + Nu.dn (l.drop k)) := hL
    clear hL
    by_cases hlt : k < l.length
    · obtain ⟨y, hy⟩ : ∃ y, y = l.getD k 0 := ⟨_, rfl⟩
      have hcy := HC.out k hlt
      rw [← hy] at hcy
      have HY : Hid (y = l.getD k 0) := hy
      clear hy
      by_cases hd : 48 ≤ y ∧ y ≤ 57
      · have HL1 : Hid (L = (k + 1) + Nu.dn (l.drop (k + 1))) := by have := HL.out; rw [dn_yes l k y hlt HY.out hd.1 hd.2] at this; show L = (k + 1) + Nu.dn (l.drop (k + 1)); omega
        obtain ⟨hd1, hd2⟩ := hd
        go_wp2_with (go_at_call 18; refine (isDigit_yes _ hd1 hd2 _).mono ?_; rintro e w'' ⟨rfl, rfl⟩)
        go_round
        case rel => exact ⟨k + 1, by omega, by omega, by go_num, HL1.out⟩
        case measure => simp [intOf]; omega
      · have hkL : k = L := by have := HL.out; rw [dn_no l k y hlt HY.out hd] at this; omega
        have HDD : Hid (¬ (48 ≤ y ∧ y ≤ 57)) := hd
        clear hd
        subst hkL
        go_wp2_with (go_at_call 18; refine (isDigit_no _ HDD.out _).mono ?_; rintro e w'' ⟨rfl, rfl⟩)
        go_loop [7] (fun ss => ∃ q : Nat, q ≤ k ∧ ss = .int .i64 q ∧ Z = q + Nu.zn (l.drop q)) (fun ss => k - (intOf ss).toNat)
        case atStart => exact ⟨0, by omega, rfl, HZ0.out⟩
        case round =>
          obtain ⟨q, hq, rfl, hZ⟩ := hrel
          have HZ : Hid (Z = q + Nu.zn (l.drop q)) := hZ
          clear hZ
          by_cases hlt2 : q < k
          · obtain ⟨z, hz⟩ : ∃ z, z = l.getD q 0 := ⟨_, rfl⟩
            have hcz := HC.out q (by omega)
            rw [← hz] at hcz
            by_cases hz48 : z = 48
            · have HZ1 : Hid (Z = (q + 1) + Nu.zn (l.drop (q + 1))) := by have := HZ.out; rw [zn_yes l q (by omega) (by rw [← hz]; exact hz48)] at this; show Z = (q + 1) + Nu.zn (l.drop (q + 1)); omega
              subst hz48
              clear hz
              go_wp2
              go_round
              case rel => exact ⟨q + 1, by omega, by go_num, HZ1.out⟩
              case measure => simp [intOf]; omega
            · have hq3 : q = Z := by have := HZ.out; rw [zn_no l q (by omega) (by rw [← hz]; exact hz48)] at this; omega
              have hn48 : (z == 48) = false := by simpa using hz48
              clear hz hz48
              subst hq3
              by_cases h13 : k - q ≤ 13
              · obtain ⟨V, hV⟩ : ∃ V, Nu.pv (seg l q k) = V := ⟨_, rfl⟩
                have HV : Hid (Nu.pv (seg l q k) = V) := hV
                have hbd := pv_small l q k (by omega)
                rw [hV] at hbd
                obtain ⟨hV0, hV1⟩ := hbd
                have HE1 : Hid (E = V) := by have := table_all l 0 k q HL0.out HZ0.out h13; show E = V; rw [HE0.out, this, hV]
                clear hV
                go_wp2_with (go_at_call 19; refine (placeValue_is _ _ _ q k _ _ V l _ HV.out rfl rfl HN.out HB.out hl (by omega) (by omega) (seg_cnt_le l q k 19 (by omega))).mono ?_; rintro e w'' ⟨rfl, rfl⟩)
                go_ret2
                exact ⟨ret_pair (by rw [HX.out, HE1.out]) (by rw [HXL.out]), rfl⟩
              · obtain ⟨V, hV⟩ : ∃ V, Nu.pv (seg l q (q + 13)) = V := ⟨_, rfl⟩
                have HV : Hid (Nu.pv (seg l q (q + 13)) = V) := hV
                have hbd := pv_small l q (q + 13) (by omega)
                rw [hV] at hbd
                obtain ⟨hV0, hV1⟩ := hbd
                by_cases hbig : V < 1099511627776
                · obtain ⟨V2, hV2⟩ : ∃ V2, Nu.pv (seg l q (q + 14)) = V2 := ⟨_, rfl⟩
                  have HV2 : Hid (Nu.pv (seg l q (q + 14)) = V2) := hV2
                  have hbd2 := pv_small l q (q + 14) (by omega)
                  rw [hV2] at hbd2
                  obtain ⟨hV20, hV21⟩ := hbd2
                  have HE1 : Hid (E = V2) := by have := table_14 l 0 k q HL0.out HZ0.out h13 (by rw [hV]; exact hbig); show E = V2; rw [HE0.out, this, hV2]
                  clear hV hV2
                  go_wp2_with (first | (go_at_call 19; refine (placeValue_is _ _ _ q (q + 13) _ _ V l _ HV.out rfl (by omega) HN.out HB.out hl (by omega) (by omega) (seg_cnt_le l q (q + 13) 19 (by omega))).mono ?_; rintro e w'' ⟨rfl, rfl⟩) | (go_at_call 19; refine (placeValue_is _ _ _ q (q + 14) _ _ V2 l _ HV2.out rfl (by omega) HN.out HB.out hl (by omega) (by omega) (seg_cnt_le l q (q + 14) 19 (by omega))).mono ?_; rintro e w'' ⟨rfl, rfl⟩))
                  go_ret2
                  exact ⟨ret_pair (by rw [HX.out, HE1.out]) (by rw [HXL.out]), rfl⟩
                · have HE1 : Hid (E = V) := by have := table_13 l 0 k q HL0.out HZ0.out h13 (by rw [hV]; exact hbig); show E = V; rw [HE0.out, this, hV]
                  clear hV
                  go_wp2_with (go_at_call 19; refine (placeValue_is _ _ _ q (q + 13) _ _ V l _ HV.out rfl (by omega) HN.out HB.out hl (by omega) (by omega) (seg_cnt_le l q (q + 13) 19 (by omega))).mono ?_; rintro e w'' ⟨rfl, rfl⟩)
                  go_ret2
                  exact ⟨ret_pair (by rw [HX.out, HE1.out]) (by rw [HXL.out]), rfl⟩
          · have hq3 : q = Z := by have := HZ.out; rw [Nu.zn_stop _ (by rw [show q = k by omega]; exact HDL.out)] at this; omega
            subst hq3
            have h13 : k - q ≤ 13 := by omega
            obtain ⟨V, hV⟩ : ∃ V, Nu.pv (seg l q k) = V := ⟨_, rfl⟩
            have HV : Hid (Nu.pv (seg l q k) = V) := hV
            have hbd := pv_small l q k (by omega)
            rw [hV] at hbd
            obtain ⟨hV0, hV1⟩ := hbd
            have HE1 : Hid (E = V) := by have := table_all l 0 k q HL0.out HZ0.out h13; show E = V; rw [HE0.out, this, hV]
            clear hV
            go_wp2_with (go_at_call 19; refine (placeValue_is _ _ _ q k _ _ V l _ HV.out rfl rfl HN.out HB.out hl (by omega) (by omega) (seg_cnt_le l q k 19 (by omega))).mono ?_; rintro e w'' ⟨rfl, rfl⟩)
            go_ret2
            exact ⟨ret_pair (by rw [HX.out, HE1.out]) (by rw [HXL.out]), rfl⟩
    · have hkL : k = L := by have := HL.out; rw [List.drop_of_length_le (show l.length ≤ k by omega)] at this; exact this.symm
      subst hkL
      go_wp2
      go_loop [7] (fun ss => ∃ q : Nat, q ≤ k ∧ ss = .int .i64 q ∧ Z = q + Nu.zn (l.drop q)) (fun ss => k - (intOf ss).toNat)
      case atStart => exact ⟨0, by omega, rfl, HZ0.out⟩
      case round =>
        obtain ⟨q, hq, rfl, hZ⟩ := hrel
        have HZ : Hid (Z = q + Nu.zn (l.drop q)) := hZ
        clear hZ
        by_cases hlt2 : q < k
        · obtain ⟨z, hz⟩ : ∃ z, z = l.getD q 0 := ⟨_, rfl⟩
          have hcz := HC.out q (by omega)
          rw [← hz] at hcz
          by_cases hz48 : z = 48
          · have HZ1 : Hid (Z = (q + 1) + Nu.zn (l.drop (q + 1))) := by have := HZ.out; rw [zn_yes l q (by omega) (by rw [← hz]; exact hz48)] at this; show Z = (q + 1) + Nu.zn (l.drop (q + 1)); omega
            subst hz48
            clear hz
            go_wp2
            go_round
            case rel => exact ⟨q + 1, by omega, by go_num, HZ1.out⟩
            case measure => simp [intOf]; omega
          · have hq3 : q = Z := by have := HZ.out; rw [zn_no l q (by omega) (by rw [← hz]; exact hz48)] at this; omega
            have hn48 : (z == 48) = false := by simpa using hz48
            clear hz hz48
            subst hq3
            by_cases h13 : k - q ≤ 13
            · obtain ⟨V, hV⟩ : ∃ V, Nu.pv (seg l q k) = V := ⟨_, rfl⟩
              have HV : Hid (Nu.pv (seg l q k) = V) := hV
              have hbd := pv_small l q k (by omega)
              rw [hV] at hbd
              obtain ⟨hV0, hV1⟩ := hbd
              have HE1 : Hid (E = V) := by have := table_all l 0 k q HL0.out HZ0.out h13; show E = V; rw [HE0.out, this, hV]
              clear hV
              go_wp2_with (go_at_call 19; refine (placeValue_is _ _ _ q k _ _ V l _ HV.out rfl rfl HN.out HB.out hl (by omega) (by omega) (seg_cnt_le l q k 19 (by omega))).mono ?_; rintro e w'' ⟨rfl, rfl⟩)
              go_ret2
              exact ⟨ret_pair (by rw [HX.out, HE1.out]) (by rw [HXL.out]), rfl⟩
            · obtain ⟨V, hV⟩ : ∃ V, Nu.pv (seg l q (q + 13)) = V := ⟨_, rfl⟩
              have HV : Hid (Nu.pv (seg l q (q + 13)) = V) := hV
              have hbd := pv_small l q (q + 13) (by omega)
              rw [hV] at hbd
              obtain ⟨hV0, hV1⟩ := hbd
              by_cases hbig : V < 1099511627776
              · obtain ⟨V2, hV2⟩ : ∃ V2, Nu.pv (seg l q (q + 14)) = V2 := ⟨_, rfl⟩
                have HV2 : Hid (Nu.pv (seg l q (q + 14)) = V2) := hV2
                have hbd2 := pv_small l q (q + 14) (by omega)
                rw [hV2] at hbd2
                obtain ⟨hV20, hV21⟩ := hbd2
                have HE1 : Hid (E = V2) := by have := table_14 l 0 k q HL0.out HZ0.out h13 (by rw [hV]; exact hbig); show E = V2; rw [HE0.out, this, hV2]
                clear hV hV2
                go_wp2_with (first | (go_at_call 19; refine (placeValue_is _ _ _ q (q + 13) _ _ V l _ HV.out rfl (by omega) HN.out HB.out hl (by omega) (by omega) (seg_cnt_le l q (q + 13) 19 (by omega))).mono ?_; rintro e w'' ⟨rfl, rfl⟩) | (go_at_call 19; refine (placeValue_is _ _ _ q (q + 14) _ _ V2 l _ HV2.out rfl (by omega) HN.out HB.out hl (by omega) (by omega) (seg_cnt_le l q (q + 14) 19 (by omega))).mono ?_; rintro e w'' ⟨rfl, rfl⟩))
                go_ret2
                exact ⟨ret_pair (by rw [HX.out, HE1.out]) (by rw [HXL.out]), rfl⟩
              · have HE1 : Hid (E = V) := by have := table_13 l 0 k q HL0.out HZ0.out h13 (by rw [hV]; exact hbig); show E = V; rw [HE0.out, this, hV]
                clear hV
                go_wp2_with (go_at_call 19; refine (placeValue_is _ _ _ q (q + 13) _ _ V l _ HV.out rfl (by omega) HN.out HB.out hl (by omega) (by omega) (seg_cnt_le l q (q + 13) 19 (by omega))).mono ?_; rintro e w'' ⟨rfl, rfl⟩)
                go_ret2
                exact ⟨ret_pair (by rw [HX.out, HE1.out]) (by rw [HXL.out]), rfl⟩
        · have hq3 : q = Z := by have := HZ.out; rw [Nu.zn_stop _ (by rw [show q = k by omega]; exact HDL.out)] at this; omega
          subst hq3
          have h13 : k - q ≤ 13 := by omega
          obtain ⟨V, hV⟩ : ∃ V, Nu.pv (seg l q k) = V := ⟨_, rfl⟩
          have HV : Hid (Nu.pv (seg l q k) = V) := hV
          have hbd := pv_small l q k (by omega)
          rw [hV] at hbd
          obtain ⟨hV0, hV1⟩ := hbd
          have HE1 : Hid (E = V) := by have := table_all l 0 k q HL0.out HZ0.out h13; show E = V; rw [HE0.out, this, hV]
          clear hV
          go_wp2_with (go_at_call 19; refine (placeValue_is _ _ _ q k _ _ V l _ HV.out rfl rfl HN.out HB.out hl (by omega) (by omega) (seg_cnt_le l q k 19 (by omega))).mono ?_; rintro e w'' ⟨rfl, rfl⟩)
          go_ret2
          exact ⟨ret_pair (by rw [HX.out, HE1.out]) (by rw [HXL.out]), rfl⟩

set_option maxHeartbeats 800000 in
theorem expModel_nil (a : Option Addr) (cap : Nat) (w : World) :
    Calls Trym.prog 10 #[.slice a 0 cap] w fun e w' => e = .returned (.tuple #[.int .i64 0, .int .i64 0]) ∧ w = w' := by
  go_enter Trym.func10, Trym.ntmps10
  go_wp2
  go_loop [6] (fun ee => ee = .int .i64 0) (fun _ => 0)
  case atStart => rfl
  case round =>
    subst hrel
    go_wp2
    go_loop [7] (fun ee => ee = .int .i64 0) (fun _ => 0)
    case atStart => rfl
    case round =>
      subst hrel
      go_wp2_with (go_at_call 19; refine (placeValue_is _ _ _ 0 0 _ _ 0 [] _ rfl rfl rfl rfl (.inl rfl) (by simp) (by omega) (by simp) (by simp [seg, Nu.cnt])).mono ?_; rintro e w'' ⟨rfl, rfl⟩)
      go_ret2
      exact ⟨rfl, rfl⟩

theorem expModel_is (a : Option Addr) (n cap L : Nat) (E : Int) (l : List Int) (w : World) (hE : Nu.exE l = E) (hL : Nu.exL l = L) (hn : n = l.length) (hB : Bs w a l) (hl : l.length ≤ 4194304) :
    Calls Trym.prog 10 #[.slice a n cap] w fun e w' => e = .returned (.tuple #[.int .i64 E, .int .i64 L]) ∧ w = w' := by
  rw [← hE, ← hL]
  rcases hB with rfl | ⟨b, off, rfl, hc⟩
  · subst hn
    exact expModel_nil a cap w
  · by_cases h0 : 0 < l.length
    · by_cases h45 : l.getD 0 0 = 45
      · exact expModel_minus b off n cap l w hn (by omega) (by omega) h0 hc hl h45
      · by_cases h43 : l.getD 0 0 = 43
        · exact expModel_plus b off n cap l w hn (by omega) (by omega) h0 hc hl h43
        · exact expModel_plain b off n cap l w hn (by omega) (by omega) h0 hc hl h45 h43
    · obtain rfl : l = [] := List.eq_nil_of_length_eq_zero (by omega)
      subst hn
      exact expModel_nil _ cap w
end Go.Proofs.Qxb6606062aMods
