/-
  SEAT b6606062aM: zzB1ReadModel walked.
-/
import Derived.Test.Qxb6606062aModsZRead
namespace Go.Proofs.Qxb6606062aMods
open Go.RowKit

/-- A byte inside the mantissa is a digit or a point. -/
theorem okc_in (l : List Int) (st en k : Nat) (hen : en = st + Nu.mn (l.drop st)) (h1 : st ≤ k) (h2 : k < en) (h3 : en ≤ l.length) : Nu.okc (l.getD k 0) := by
  refine Nu.mn_ok (l.drop st) _ ?_
  have hk : k < l.length := by omega
  have e : (l.drop st)[k - st]? = some (l.getD k 0) := by
    rw [List.getElem?_drop, show st + (k - st) = k by omega, List.getD_eq_getElem?_getD, List.getElem?_eq_getElem hk]; rfl
  have e2 : ((l.drop st).take (Nu.mn (l.drop st)))[k - st]? = some (l.getD k 0) := by rw [List.getElem?_take_of_lt (by omega)]; exact e
  exact List.mem_of_getElem? e2

theorem mrun_next (l : List Int) (st k : Nat) (s t : Nu.MS) (x : Int) (h1 : st ≤ k) (h2 : k < l.length) (hx : x = l.getD k 0) (hs : Nu.mrun st (seg l st k) = s) (ht : Nu.mstp k s x = t) : Nu.mrun st (seg l st (k + 1)) = t := by
  rw [seg_snoc l st k h1 h2, Nu.mrun_snoc, hs, ← hx]
  have : st + (seg l st k).length = k := by rw [seg_take, List.length_take, List.length_drop]; omega
  rw [this]; exact ht

/-- WHERE THE MODEL STANDS IN ITS SECOND LOOP. -/
def Mat (l : List Int) (st k ap : Nat) (pt : Bool) (fi la : Int) : Prop :=
  Nu.mrun st (seg l st k) = ⟨ap, pt, fi, la⟩ ∧ ap ≤ k ∧ ((fi = -1 ∧ la = -1) ∨ ((st : Int) ≤ fi ∧ fi ≤ la ∧ la < k))

theorem Mat.step {l : List Int} {st k ap ap' : Nat} {pt pt' : Bool} {fi la fi' la' : Int} (x : Int) (h : Mat l st k ap pt fi la) (h1 : st ≤ k) (hk : k < l.length) (hx : x = l.getD k 0)
    (hs : Nu.mstp k ⟨ap, pt, fi, la⟩ x = ⟨ap', pt', fi', la'⟩) (ha : ap' ≤ k + 1) (hf : (fi' = -1 ∧ la' = -1) ∨ ((st : Int) ≤ fi' ∧ fi' ≤ la' ∧ la' < ((k + 1 : Nat) : Int))) : Mat l st (k + 1) ap' pt' fi' la' :=
  ⟨mrun_next l st k _ _ x h1 hk hx h.1 hs, ha, hf⟩

/-- WHAT THE MODEL ANSWERS. -/
def MAns (l : List Int) (en : Nat) (neg : Bool) (E : Int) (ap : Nat) (fi la : Int) (A : Bool) (D X : Int) (OK : Bool) : Prop :=
  (fi < 0 → A = false ∧ D = 0 ∧ X = 0 ∧ OK = true) ∧
  (∀ F G : Nat, fi = (F : Int) → la = (G : Int) →
    (19 < Nu.cnt (seg l F (G + 1)) → A = neg ∧ D = 0 ∧ X = 0 ∧ OK = false) ∧
    (Nu.cnt (seg l F (G + 1)) ≤ 19 → A = neg ∧ D = Nu.pv (seg l F (G + 1)) ∧ X = (Nu.cnt (seg l (G + 1) en) : Int) - ap + E ∧ OK = true))

theorem cnt_yes (l : List Int) (a k : Nat) (x : Int) (h1 : a ≤ k) (h2 : k < l.length) (hx : x = l.getD k 0) (hd : 48 ≤ x ∧ x ≤ 57) : Nu.cnt (seg l a (k + 1)) = Nu.cnt (seg l a k) + 1 := by
  rw [seg_snoc l a k h1 h2, ← hx, Nu.cnt_snoc _ _ hd.1 hd.2]
theorem cnt_no (l : List Int) (a k : Nat) (x : Int) (h1 : a ≤ k) (h2 : k < l.length) (hx : x = l.getD k 0) (hd : ¬ (48 ≤ x ∧ x ≤ 57)) : Nu.cnt (seg l a (k + 1)) = Nu.cnt (seg l a k) := by
  rw [seg_snoc l a k h1 h2, ← hx, Nu.cnt_append, Nu.cnt_skip x [] hd]; rfl

theorem val_int {a b : Int} (h : a = b) : Value.int .i64 a = .int .i64 b := by rw [h]

set_option maxHeartbeats 6400000 in
set_option maxRecDepth 100000 in
theorem readModel_some (b off n cap st en : Nat) (neg : Bool) (l : List Int) (w : World) (HN : Hid (n = l.length)) (hn1 : n ≤ l.length) (hn2 : l.length ≤ n) (h0 : 0 < l.length) (HC : Hid (∀ i, i < l.length → w.cell? ⟨b, off + i, none⟩ = some (.int .u8 (l.getD i 0)))) (hl : l.length ≤ 4194304)
    (hcap : l.length ≤ cap) (Hst : Hid ((l.getD 0 0 = 45 ∧ st = 1 ∧ neg = true) ∨ (l.getD 0 0 ≠ 45 ∧ st = 0 ∧ neg = false))) (Hen : Hid (en = st + Nu.mn (l.drop st)))
    (E : Int) (LEN AP : Nat) (PT : Bool) (FI LA : Int) (HE : Hid (Tail l en E LEN)) (HS : Hid (Nu.mrun st (seg l st en) = ⟨AP, PT, FI, LA⟩)) (A : Bool) (D X : Int) (OK : Bool) (HM : Hid (MAns l en neg E AP FI LA A D X OK)) :
    Calls Trym.prog 16 #[.slice (some ⟨b, off, none⟩) n cap] w fun e w' => e = .returned (.tuple #[.bool A, .int .u64 D, .int .i64 X, .bool OK, .int .i64 LEN]) ∧ w = w' := by
  have HB : Hid (Bs w (some ⟨b, off, none⟩) l) := .inr ⟨b, off, rfl, HC.out⟩
  obtain ⟨x0, hx0⟩ : ∃ x0, x0 = l.getD 0 0 := ⟨_, rfl⟩
  have hcell := HC.out 0 h0
  rw [← hx0, Nat.add_zero] at hcell
  have Hx0 : Hid ((x0 = 45 ∧ st = 1 ∧ neg = true) ∨ (x0 ≠ 45 ∧ st = 0 ∧ neg = false)) := by rw [hx0]; exact Hst.out
  clear hx0 Hst
  have hst1 : st ≤ l.length := by rcases Hx0.out with h | h <;> omega
  have hse : st ≤ en := by have := Hen.out; omega
  have hel : en ≤ l.length := by have := Hen.out; have h2 := Nu.mn_le (l.drop st); rw [List.length_drop] at h2; omega
  go_enter Trym.func16, Trym.ntmps16
  go_upto_if 32 with fail
  go_cut [7, 8] from 24 to 32 (fun i ng wx => i = .int .i64 st ∧ ng = .bool neg ∧ wx = w)
  case first =>
    rcases Hx0.out with ⟨e1, e2, e3⟩ | ⟨e1, e2, e3⟩
    · subst e1 e2 e3
      go_wp2
      go_meet
      exact ⟨rfl, rfl, rfl⟩
    · subst e2 e3
      have hn45 : (x0 == 45) = false := by simpa using e1
      go_wp2
      go_meet
      exact ⟨rfl, rfl, rfl⟩
  case rest =>
    obtain ⟨rfl, rfl, rfl⟩ := hcut
    clear hcell Hx0
    go_upto_block 0 with fail
    go_cut [9] from 33 to 53 (fun e wx => e = .int .i64 en ∧ wx = wc)
    case first =>
      go_wp2_with fail
      go_loop [9] (fun e => ∃ k : Nat, st ≤ k ∧ k ≤ en ∧ e = .int .i64 k ∧ en = k + Nu.mn (l.drop k)) (fun e => l.length - (intOf e).toNat)
      case atStart => exact ⟨st, Nat.le_refl _, hse, rfl, Hen.out⟩
      case round =>
        obtain ⟨k, hk1, hk2, rfl, hm⟩ := hrel
        have HK : Hid (en = k + Nu.mn (l.drop k)) := hm
        clear hm
        by_cases hlt : k < l.length
        · obtain ⟨x, hx⟩ : ∃ x, x = l.getD k 0 := ⟨_, rfl⟩
          have hcx := HC.out k hlt
          rw [← hx] at hcx
          have HX : Hid (x = l.getD k 0) := hx
          clear hx
          by_cases hd : 48 ≤ x ∧ x ≤ 57
          · have HK1 : Hid (en = (k + 1) + Nu.mn (l.drop (k + 1))) := by have := HK.out; rw [mn_yes l k hlt (by rw [← HX.out]; exact .inr hd)] at this; show en = (k + 1) + Nu.mn (l.drop (k + 1)); omega
            have hke : k + 1 ≤ en := by have := HK1.out; omega
            obtain ⟨hd1, hd2⟩ := hd
            go_wp2_with (go_at_call 18; refine (isDigit_yes _ hd1 hd2 _).mono ?_; rintro e w'' ⟨rfl, rfl⟩)
            go_round
            case rel => exact ⟨k + 1, by omega, hke, by go_num, HK1.out⟩
            case measure => simp [intOf]; omega
          · have HDD : Hid (¬ (48 ≤ x ∧ x ≤ 57)) := hd
            by_cases h46 : x = 46
            · have HK1 : Hid (en = (k + 1) + Nu.mn (l.drop (k + 1))) := by have := HK.out; rw [mn_yes l k hlt (by rw [← HX.out]; exact .inl h46)] at this; show en = (k + 1) + Nu.mn (l.drop (k + 1)); omega
              have hke : k + 1 ≤ en := by have := HK1.out; omega
              subst h46
              clear hd
              go_wp2_with (go_at_call 18; refine (isDigit_no _ HDD.out _).mono ?_; rintro e w'' ⟨rfl, rfl⟩)
              go_round
              case rel => exact ⟨k + 1, by omega, hke, by go_num, HK1.out⟩
              case measure => simp [intOf]; omega
            · have hke : k = en := by have := HK.out; rw [mn_no l k hlt (by rw [← HX.out]; rintro (h | h); exact h46 h; exact hd h)] at this; omega
              have hn46 : (x == 46) = false := by simpa using h46
              clear hd h46
              subst hke
              go_wp2_with (go_at_call 18; refine (isDigit_no _ HDD.out _).mono ?_; rintro e w'' ⟨rfl, rfl⟩)
              go_meet
              exact ⟨rfl, rfl⟩
        · have hke : k = en := by have := HK.out; rw [List.drop_of_length_le (show l.length ≤ k by omega)] at this; exact this.symm
          subst hke
          go_wp2
          go_meet
          exact ⟨rfl, rfl⟩
    case rest =>
      obtain ⟨rfl, rfl⟩ := hcut
      go_wp2
      go_loop [10, 11, 12, 13, 14] (fun a p f t j => ∃ (k ap : Nat) (pt : Bool) (fi la : Int), st ≤ k ∧ k ≤ en ∧ a = .int .i64 ap ∧ p = .bool pt ∧ f = .int .i64 fi ∧ t = .int .i64 la ∧ j = .int .i64 k ∧ Mat l st k ap pt fi la) (fun _ _ _ _ j => en - (intOf j).toNat)
      case atStart => exact ⟨st, 0, false, -1, -1, Nat.le_refl _, hse, rfl, rfl, rfl, rfl, rfl, ⟨by rw [seg_self]; rfl, Nat.zero_le _, .inl ⟨rfl, rfl⟩⟩⟩
      case round =>
        obtain ⟨k, ap, pt, fi, la, hk1, hk2, rfl, rfl, rfl, rfl, rfl, hT⟩ := hrel
        have HT : Hid (Mat l st k ap pt fi la) := hT
        have hap : ap ≤ k := hT.2.1
        have hfl := hT.2.2
        clear hT
        by_cases hlt : k < en
        · obtain ⟨x, hx⟩ : ∃ x, x = l.getD k 0 := ⟨_, rfl⟩
          have hcx := HC.out k (by omega)
          rw [← hx] at hcx
          have HX : Hid (x = l.getD k 0) := hx
          have hok : x = 46 ∨ (48 ≤ x ∧ x ≤ 57) := by rw [hx]; exact okc_in l st en k Hen.out hk1 hlt hel
          clear hx
          by_cases h46 : x = 46
          · subst h46
            clear hok
            have HM1 : Hid (Mat l st (k + 1) (ap) true (fi) (la)) := HT.out.step _ hk1 (by omega) HX.out (by simp [Nu.mstp]) (by omega) (by omega)
            go_wp2
            go_round
            case rel => exact ⟨k + 1, ap, true, fi, la, by omega, by omega, by go_num, rfl, rfl, rfl, by go_num, HM1.out⟩
            case measure => simp [intOf]; omega
          · have hd : 48 ≤ x ∧ x ≤ 57 := by rcases hok with h | h; exact absurd h h46; exact h
            obtain ⟨hd1, hd2⟩ := hd
            have hn46 : (x == 46) = false := by simpa using h46
            clear hok
            cases pt
            · by_cases h48 : x = 48
              · subst h48
                have HM1 : Hid (Mat l st (k + 1) (ap) false (fi) (la)) := HT.out.step _ hk1 (by omega) HX.out (by simp [Nu.mstp, Nu.more]) (by omega) (by omega)
                go_wp2
                go_round
                case rel => exact ⟨k + 1, ap, false, fi, la, by omega, by omega, by go_num, rfl, rfl, rfl, by go_num, HM1.out⟩
                case measure => simp [intOf]; omega
              · have hn48 : (x == 48) = false := by simpa using h48
                by_cases hfi : fi < 0
                · have HM1 : Hid (Mat l st (k + 1) (ap) false ((k : Int)) ((k : Int))) := HT.out.step _ hk1 (by omega) HX.out (by simp [Nu.mstp, Nu.more, h46, h48, hfi]) (by omega) (by omega)
                  go_wp2
                  go_round
                  case rel => exact ⟨k + 1, ap, false, (k : Int), (k : Int), by omega, by omega, by go_num, rfl, rfl, rfl, by go_num, HM1.out⟩
                  case measure => simp [intOf]; omega
                · have HM1 : Hid (Mat l st (k + 1) (ap) false (fi) ((k : Int))) := HT.out.step _ hk1 (by omega) HX.out (by simp [Nu.mstp, Nu.more, h46, h48, hfi]) (by omega) (by omega)
                  go_wp2
                  go_round
                  case rel => exact ⟨k + 1, ap, false, fi, (k : Int), by omega, by omega, by go_num, rfl, rfl, rfl, by go_num, HM1.out⟩
                  case measure => simp [intOf]; omega
            · by_cases h48 : x = 48
              · subst h48
                have HM1 : Hid (Mat l st (k + 1) (ap + 1) true (fi) (la)) := HT.out.step _ hk1 (by omega) HX.out (by simp [Nu.mstp, Nu.more]) (by omega) (by omega)
                go_wp2
                go_round
                case rel => exact ⟨k + 1, ap + 1, true, fi, la, by omega, by omega, by go_num, rfl, rfl, rfl, by go_num, HM1.out⟩
                case measure => simp [intOf]; omega
              · have hn48 : (x == 48) = false := by simpa using h48
                by_cases hfi : fi < 0
                · have HM1 : Hid (Mat l st (k + 1) (ap + 1) true ((k : Int)) ((k : Int))) := HT.out.step _ hk1 (by omega) HX.out (by simp [Nu.mstp, Nu.more, h46, h48, hfi]) (by omega) (by omega)
                  go_wp2
                  go_round
                  case rel => exact ⟨k + 1, ap + 1, true, (k : Int), (k : Int), by omega, by omega, by go_num, rfl, rfl, rfl, by go_num, HM1.out⟩
                  case measure => simp [intOf]; omega
                · have HM1 : Hid (Mat l st (k + 1) (ap + 1) true (fi) ((k : Int))) := HT.out.step _ hk1 (by omega) HX.out (by simp [Nu.mstp, Nu.more, h46, h48, hfi]) (by omega) (by omega)
                  go_wp2
                  go_round
                  case rel => exact ⟨k + 1, ap + 1, true, fi, (k : Int), by omega, by omega, by go_num, rfl, rfl, rfl, by go_num, HM1.out⟩
                  case measure => simp [intOf]; omega
        · have hke : en = k := by omega
          subst hke
          have heq := HT.out.1.symm.trans HS.out
          rw [Nu.MS.mk.injEq] at heq
          obtain ⟨rfl, rfl, rfl, rfl⟩ := heq
          clear HT HS hlt
          obtain ⟨ie, hie⟩ : ∃ ie : Bool, (ie = true ∧ en < l.length ∧ (l.getD en 0 = 101 ∨ l.getD en 0 = 69) ∧ Nu.exE (l.drop (en + 1)) = E ∧ LEN = en + (1 + Nu.exL (l.drop (en + 1)))) ∨ (ie = false ∧ (en < l.length → l.getD en 0 ≠ 101 ∧ l.getD en 0 ≠ 69) ∧ E = 0 ∧ LEN = en) := by
            rcases HE.out with h | h
            · exact ⟨true, .inl ⟨rfl, h⟩⟩
            · exact ⟨false, .inr ⟨rfl, h⟩⟩
          have HI : Hid ((ie = true ∧ en < l.length ∧ (l.getD en 0 = 101 ∨ l.getD en 0 = 69) ∧ Nu.exE (l.drop (en + 1)) = E ∧ LEN = en + (1 + Nu.exL (l.drop (en + 1)))) ∨ (ie = false ∧ (en < l.length → l.getD en 0 ≠ 101 ∧ l.getD en 0 ≠ 69) ∧ E = 0 ∧ LEN = en)) := hie
          clear hie HE
          go_upto_region 27 with fail
          go_cut [93] from 76 to 92 (fun s wx => s = .bool ie ∧ wx = wc)
          case first =>
            rcases HI.out with ⟨rfl, hen, hx, _, _⟩ | ⟨rfl, hx, _, _⟩
            · obtain ⟨x, hxx⟩ : ∃ x, x = l.getD en 0 := ⟨_, rfl⟩
              have hcx := HC.out en hen
              rw [← hxx] at hcx hx
              clear hxx
              rcases hx with hx | hx
              all_goals
                subst hx
                go_wp2
                go_meet
                exact ⟨rfl, rfl⟩
            · by_cases hen : en < l.length
              · obtain ⟨x, hxx⟩ : ∃ x, x = l.getD en 0 := ⟨_, rfl⟩
                have hcx := HC.out en hen
                have hx2 := hx hen
                rw [← hxx] at hcx hx2
                have h101 : (x == 101) = false := by simpa using hx2.1
                have h69 : (x == 69) = false := by simpa using hx2.2
                clear hx hxx hx2
                go_wp2
                go_meet
                exact ⟨rfl, rfl⟩
              · clear hx
                go_wp2
                go_meet
                exact ⟨rfl, rfl⟩
          case rest =>
            obtain ⟨rfl, rfl⟩ := hcut
            go_upto_if 93 with fail
            go_cut [16, 17, 18, 19] from 76 to 106 (fun s16 s17 _ _ wx => s16 = .int .i64 LEN ∧ s17 = .int .i64 E ∧ wx = wc)
            case first =>
              rcases HI.out with ⟨rfl, hen, _, hE, hLEN⟩ | ⟨rfl, _, hE, hLEN⟩
              · obtain ⟨EL, hEL⟩ : ∃ EL, Nu.exL (l.drop (en + 1)) = EL := ⟨_, rfl⟩
                have HEE : Hid (Nu.exE (l.drop (en + 1)) = E) := hE
                have HEL : Hid (Nu.exL (l.drop (en + 1)) = EL) := hEL
                have HLEN2 : Hid ((en : Int) + 1 + (EL : Int) = (LEN : Int)) := by show (en : Int) + 1 + (EL : Int) = (LEN : Int); rw [hLEN, hEL]; omega
                have hELb : EL ≤ l.length := by have := Nu.exL_le (l.drop (en + 1)); rw [hEL, List.length_drop] at this; omega
                clear hE hEL hLEN HI
                by_cases hfull : en + 1 = cap
                · have HBA : Hid (Bs wc (some ⟨b, off, none⟩) (l.drop (en + 1))) := .inl (List.drop_of_length_le (by omega))
                  go_wp2_with (go_at_call 10; refine (expModel_is _ _ _ EL E (l.drop (en + 1)) _ HEE.out HEL.out (by rw [List.length_drop]; omega) HBA.out (by rw [List.length_drop]; omega)).mono ?_; rintro e w'' ⟨rfl, rfl⟩)
                  go_meet
                  exact ⟨val_int HLEN2.out, rfl, rfl⟩
                · have HBA : Hid (Bs wc (some ⟨b, off + (en + 1), none⟩) (l.drop (en + 1))) := Bs.drop (en + 1) HC.out
                  go_wp2_with (go_at_call 10; refine (expModel_is _ _ _ EL E (l.drop (en + 1)) _ HEE.out HEL.out (by rw [List.length_drop]; omega) HBA.out (by rw [List.length_drop]; omega)).mono ?_; rintro e w'' ⟨rfl, rfl⟩)
                  go_meet
                  exact ⟨val_int HLEN2.out, rfl, rfl⟩
              · clear HI
                subst hE hLEN
                go_wp2
                go_meet
                exact ⟨rfl, rfl, rfl⟩
            case rest =>
              have hEb : -10995116277769 ≤ E ∧ E ≤ 10995116277769 := by
                rcases HI.out with ⟨_, _, _, hE, _⟩ | ⟨_, _, hE, _⟩
                · rw [← hE]; exact exE_bd _
                · omega
              obtain ⟨hE1, hE2⟩ := hEb
              obtain ⟨rfl, rfl, rfl⟩ := hcut
              clear HI
              by_cases hneg : fi < 0
              · have H4 := HM.out.1 hneg
                have HA : Hid (A = false) := H4.1
                have HD : Hid (D = 0) := H4.2.1
                have HXX : Hid (X = 0) := H4.2.2.1
                have HO : Hid (OK = true) := H4.2.2.2
                clear H4
                go_wp2
                exact bodyPost_ret (v := .tuple #[.bool false, .int .u64 0, .int .i64 (0), .bool true, .int .i64 LEN]) (by simp [results, Trym.results16, go_sem]) rfl ⟨by rw [HA.out, HD.out, HXX.out, HO.out], rfl⟩
              · obtain ⟨F, rfl⟩ : ∃ F : Nat, fi = (F : Int) := ⟨fi.toNat, by omega⟩
                obtain ⟨G, rfl⟩ : ∃ G : Nat, la = (G : Int) := ⟨la.toNat, by omega⟩
                have hFG : F ≤ G := by omega
                have hGe : G < en := by omega
                have HMM : Hid ((19 < Nu.cnt (seg l F (G + 1)) → A = neg ∧ D = 0 ∧ X = 0 ∧ OK = false) ∧ (Nu.cnt (seg l F (G + 1)) ≤ 19 → A = neg ∧ D = Nu.pv (seg l F (G + 1)) ∧ X = (Nu.cnt (seg l (G + 1) en) : Int) - ap + E ∧ OK = true)) := HM.out.2 F G rfl rfl
                clear hfl HM hneg
                go_wp2
                go_loop [20, 21] (fun s j => ∃ k g : Nat, F ≤ k ∧ k ≤ G + 1 ∧ g ≤ k ∧ s = .int .i64 g ∧ j = .int .i64 k ∧ g = Nu.cnt (seg l F k)) (fun _ j => G + 1 - (intOf j).toNat)
                case atStart => exact ⟨F, 0, Nat.le_refl _, by omega, Nat.zero_le _, rfl, rfl, by rw [seg_self]; rfl⟩
                case round =>
                  obtain ⟨k, g, hk1, hk2, hgk, rfl, rfl, hg⟩ := hrel
                  have Hg : Hid (g = Nu.cnt (seg l F k)) := hg
                  clear hg
                  by_cases hlt : k < G + 1
                  · obtain ⟨x, hx⟩ : ∃ x, x = l.getD k 0 := ⟨_, rfl⟩
                    have hcx := HC.out k (by omega)
                    rw [← hx] at hcx
                    have HX : Hid (x = l.getD k 0) := hx
                    clear hx
                    by_cases hd : 48 ≤ x ∧ x ≤ 57
                    · have Hg1 : Hid (g + 1 = Nu.cnt (seg l F (k + 1))) := by show g + 1 = Nu.cnt (seg l F (k + 1)); rw [cnt_yes l F k x hk1 (by omega) HX.out hd, ← Hg.out]
                      obtain ⟨hd1, hd2⟩ := hd
                      go_wp2_with (go_at_call 18; refine (isDigit_yes _ hd1 hd2 _).mono ?_; rintro e w'' ⟨rfl, rfl⟩)
                      go_round
                      case rel => exact ⟨k + 1, g + 1, by omega, by omega, by omega, by go_num, by go_num, Hg1.out⟩
                      case measure => simp [intOf]; omega
                    · have Hg1 : Hid (g = Nu.cnt (seg l F (k + 1))) := by show g = Nu.cnt (seg l F (k + 1)); rw [cnt_no l F k x hk1 (by omega) HX.out hd, ← Hg.out]
                      have HDD : Hid (¬ (48 ≤ x ∧ x ≤ 57)) := hd
                      clear hd
                      go_wp2_with (go_at_call 18; refine (isDigit_no _ HDD.out _).mono ?_; rintro e w'' ⟨rfl, rfl⟩)
                      go_round
                      case rel => exact ⟨k + 1, g, by omega, by omega, by omega, rfl, by go_num, Hg1.out⟩
                      case measure => simp [intOf]; omega
                  · obtain rfl : k = G + 1 := by omega
                    by_cases h19 : 19 < g
                    · have H4 := HMM.out.1 (by rw [← Hg.out]; exact h19)
                      have HA : Hid (A = neg) := H4.1
                      have HD : Hid (D = 0) := H4.2.1
                      have HXX : Hid (X = 0) := H4.2.2.1
                      have HO : Hid (OK = false) := H4.2.2.2
                      clear H4
                      go_wp2
                      exact bodyPost_ret (v := .tuple #[.bool neg, .int .u64 0, .int .i64 (0), .bool false, .int .i64 LEN]) (by simp [results, Trym.results16, go_sem]) rfl ⟨by rw [HA.out, HD.out, HXX.out, HO.out], rfl⟩
                    · have H4 := HMM.out.2 (by rw [← Hg.out]; omega)
                      have HA : Hid (A = neg) := H4.1
                      have HD : Hid (Nu.pv (seg l F (G + 1)) = D) := H4.2.1.symm
                      have HXX : Hid (X = (Nu.cnt (seg l (G + 1) en) : Int) - ap + E) := H4.2.2.1
                      have HO : Hid (OK = true) := H4.2.2.2
                      have H19 : Hid (Nu.cnt (seg l F (G + 1)) ≤ 19) := by have := Hg.out; show Nu.cnt (seg l F (G + 1)) ≤ 19; omega
                      clear H4 HMM
                      go_wp2
                      go_loop [22, 23] (fun s j => ∃ k g : Nat, G + 1 ≤ k ∧ k ≤ en ∧ g ≤ k ∧ s = .int .i64 g ∧ j = .int .i64 k ∧ g = Nu.cnt (seg l (G + 1) k)) (fun _ j => en - (intOf j).toNat)
                      case atStart => exact ⟨G + 1, 0, Nat.le_refl _, by omega, Nat.zero_le _, rfl, by go_num, by rw [seg_self]; rfl⟩
                      case round =>
                        obtain ⟨k, t, hk1, hk2, htk, rfl, rfl, ht⟩ := hrel
                        have Ht : Hid (t = Nu.cnt (seg l (G + 1) k)) := ht
                        clear ht
                        by_cases hlt : k < en
                        · obtain ⟨x, hx⟩ : ∃ x, x = l.getD k 0 := ⟨_, rfl⟩
                          have hcx := HC.out k (by omega)
                          rw [← hx] at hcx
                          have HX : Hid (x = l.getD k 0) := hx
                          clear hx
                          by_cases hd : 48 ≤ x ∧ x ≤ 57
                          · have Ht1 : Hid (t + 1 = Nu.cnt (seg l (G + 1) (k + 1))) := by show t + 1 = Nu.cnt (seg l (G + 1) (k + 1)); rw [cnt_yes l (G + 1) k x hk1 (by omega) HX.out hd, ← Ht.out]
                            obtain ⟨hd1, hd2⟩ := hd
                            go_wp2_with (go_at_call 18; refine (isDigit_yes _ hd1 hd2 _).mono ?_; rintro e w'' ⟨rfl, rfl⟩)
                            go_round
                            case rel => exact ⟨k + 1, t + 1, by omega, by omega, by omega, by go_num, by go_num, Ht1.out⟩
                            case measure => simp [intOf]; omega
                          · have Ht1 : Hid (t = Nu.cnt (seg l (G + 1) (k + 1))) := by show t = Nu.cnt (seg l (G + 1) (k + 1)); rw [cnt_no l (G + 1) k x hk1 (by omega) HX.out hd, ← Ht.out]
                            have HDD : Hid (¬ (48 ≤ x ∧ x ≤ 57)) := hd
                            clear hd
                            go_wp2_with (go_at_call 18; refine (isDigit_no _ HDD.out _).mono ?_; rintro e w'' ⟨rfl, rfl⟩)
                            go_round
                            case rel => exact ⟨k + 1, t, by omega, by omega, by omega, rfl, by go_num, Ht1.out⟩
                            case measure => simp [intOf]; omega
                        · obtain hke : en = k := by omega
                          subst hke
                          have HX2 : Hid (X = (t : Int) - ap + E) := by have := HXX.out; rw [← Ht.out] at this; exact this
                          go_wp2_with (go_at_call 19; refine (placeValue_is _ _ _ F (G + 1) _ _ D l _ HD.out rfl (by omega) HN.out HB.out hl (by omega) (by omega) H19.out).mono ?_; rintro e w'' ⟨rfl, rfl⟩)
                          exact bodyPost_ret (v := .tuple #[.bool neg, .int .u64 D, .int .i64 ((t : Int) - ap + E), .bool true, .int .i64 LEN]) (by simp [results, Trym.results16, go_sem]) rfl ⟨by rw [HA.out, HX2.out, HO.out], rfl⟩
end Go.Proofs.Qxb6606062aMods
