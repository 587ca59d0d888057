/-
  SEAT b6606062aM: readNumber walked.
-/
import Derived.Test.Qxb6606062aModsExpModel
import Derived.Test.Qxb6606062aModsNum
import Derived.Deep.CutBlock
import Derived.Deep.CutRange
import Derived.Deep.DeepCutAuto
namespace Go.Proofs.Qxb6606062aMods
open Go.RowKit

theorem mn_yes (l : List Int) (k : Nat) (h : k < l.length) (hx : Nu.okc (l.getD k 0)) : Nu.mn (l.drop k) = Nu.mn (l.drop (k + 1)) + 1 := by
  rw [drop_cons l k h]
  have hx' : l.getD k 0 = 46 ∨ (48 ≤ l.getD k 0 ∧ l.getD k 0 ≤ 57) := hx
  simp only [Nu.mn, hx', if_true]
theorem mn_no (l : List Int) (k : Nat) (h : k < l.length) (hx : ¬ Nu.okc (l.getD k 0)) : Nu.mn (l.drop k) = 0 := by
  rw [drop_cons l k h]
  have hx' : ¬ (l.getD k 0 = 46 ∨ (48 ≤ l.getD k 0 ∧ l.getD k 0 ≤ 57)) := hx
  simp only [Nu.mn, hx', if_false]
theorem seg_snoc (l : List Int) (st k : Nat) (h1 : st ≤ k) (h2 : k < l.length) : seg l st (k + 1) = seg l st k ++ [l.getD k 0] := by
  unfold seg
  rw [List.take_succ_eq_append_getElem h2, List.drop_append_of_le_length (by simp; omega)]
  congr 1
  simp [List.getD_eq_getElem?_getD, h2]
theorem seg_self (l : List Int) (st : Nat) : seg l st st = [] := seg_end l st

/-- A pair of steps of readNumber's state, as the walk makes them. -/
theorem run_next (l : List Int) (st k : Nat) (s t : Nu.RS) (x : Int) (h1 : st ≤ k) (h2 : k < l.length) (hx : x = l.getD k 0) (hs : Nu.run (seg l st k) = s) (ht : Nu.stp s x = t) : Nu.run (seg l st (k + 1)) = t := by
  rw [seg_snoc l st k h1 h2, Nu.run_snoc, hs, ← hx]; exact ht

/-- WHERE readNumber STANDS BEHIND ITS LOOP. -/
def At (l : List Int) (st en : Nat) (k rd zs : Nat) (pt ft : Bool) (dg ex : Int) : Prop :=
  st ≤ k ∧ k ≤ l.length ∧ en = k + Nu.mn (l.drop k) ∧ Nu.run (seg l st k) = ⟨rd, zs, pt, ft, dg, ex⟩ ∧ Nu.Bd k ⟨rd, zs, pt, ft, dg, ex⟩

theorem At.step {l : List Int} {st en k rd zs rd' zs' : Nat} {pt ft pt' ft' : Bool} {dg ex dg' ex' : Int} (x : Int) (h : At l st en k rd zs pt ft dg ex) (hk : k < l.length) (hx : x = l.getD k 0) (hc : Nu.okc x)
    (hs : Nu.stp ⟨rd, zs, pt, ft, dg, ex⟩ x = ⟨rd', zs', pt', ft', dg', ex'⟩) : At l st en (k + 1) rd' zs' pt' ft' dg' ex' := by
  obtain ⟨h1, h2, h3, h4, h5⟩ := h
  refine ⟨by omega, by omega, ?_, run_next l st k _ _ x h1 hk hx h4 hs, ?_⟩
  · rw [mn_yes l k hk (by rw [← hx]; exact hc)] at h3; omega
  · have := Nu.bd_step k _ x hc h5
    rw [hs] at this; exact this

/-- THE EXPONENT BEHIND THE MANTISSA, where there is one; and the whole length. -/
def Tail (l : List Int) (en : Nat) (E : Int) (LEN : Nat) : Prop :=
  (en < l.length ∧ (l.getD en 0 = 101 ∨ l.getD en 0 = 69) ∧ Nu.exE (l.drop (en + 1)) = E ∧ LEN = en + (1 + Nu.exL (l.drop (en + 1)))) ∨
  ((en < l.length → l.getD en 0 ≠ 101 ∧ l.getD en 0 ≠ 69) ∧ E = 0 ∧ LEN = en)

def rNeg (neg ft : Bool) (dg : Int) : Bool := if ft = true ∧ dg = 0 then false else neg
def rEx (ft : Bool) (dg ex : Int) (zs : Nat) (E : Int) : Int := if ft = true ∧ dg = 0 then 0 else ex + zs + E
theorem rNeg_no (neg : Bool) (dg : Int) : rNeg neg false dg = neg := by simp [rNeg]
theorem rEx_no (dg ex : Int) (zs : Nat) (E : Int) : rEx false dg ex zs E = ex + zs + E := by simp [rEx]
theorem rNeg_zero (neg : Bool) : rNeg neg true 0 = false := by simp [rNeg]
theorem rEx_zero (ex : Int) (zs : Nat) (E : Int) : rEx true 0 ex zs E = 0 := by simp [rEx]
theorem rNeg_some (neg : Bool) (dg : Int) (h : dg ≠ 0) : rNeg neg true dg = neg := by simp [rNeg, h]
theorem rEx_some (dg ex : Int) (zs : Nat) (E : Int) (h : dg ≠ 0) : rEx true dg ex zs E = ex + zs + E := by simp [rEx, h]

theorem exE_bd (l : List Int) : -10995116277769 ≤ Nu.exE l ∧ Nu.exE l ≤ 10995116277769 := by
  have h := fun m => Nu.ev_bd m 0 (by omega) (by omega)
  cases l with
  | nil => simp [Nu.exE]
  | cons c r =>
    have h1 := h r
    have h2 := h (c :: r)
    simp only [Nu.exE]
    split
    · omega
    · split <;> omega

set_option maxHeartbeats 3200000 in
set_option maxRecDepth 100000 in
theorem readNumber_some (b off n cap st en : Nat) (neg : Bool) (l : List Int) (w : World) (hn1 : n ≤ l.length) (hn2 : l.length ≤ n) (h0 : 0 < l.length) (HC : Hid (∀ i, i < l.length → w.cell? ⟨b, off + i, none⟩ = some (.int .u8 (l.getD i 0)))) (hl : l.length ≤ 4194304) (hb : b < w.heap.size)
    (hcap : l.length ≤ cap) (Hst : Hid ((l.getD 0 0 = 45 ∧ st = 1 ∧ neg = true) ∨ (l.getD 0 0 ≠ 45 ∧ st = 0 ∧ neg = false))) (Hen : Hid (en = st + Nu.mn (l.drop st)))
    (E : Int) (LEN RD ZS : Nat) (PT FT : Bool) (DG EX : Int) (HE : Hid (Tail l en E LEN)) (HS : Hid (Nu.run (seg l st en) = ⟨RD, ZS, PT, FT, DG, EX⟩)) :
    Calls Trym.prog 20 #[.slice (some ⟨b, off, none⟩) n cap] w fun e w' => e = .returned (.tuple #[.agg #[.bool (rNeg neg FT DG), .int .u64 DG, .int .i64 (rEx FT DG EX ZS E)], .bool FT, .int .i64 LEN]) ∧ Below w.heap.size w w' := by
  obtain ⟨x0, hx0⟩ : ∃ x0, x0 = l.getD 0 0 := ⟨_, rfl⟩
  have hcell := HC.out 0 h0
  rw [← hx0, Nat.add_zero] at hcell
  have Hx0 : Hid ((x0 = 45 ∧ st = 1 ∧ neg = true) ∨ (x0 ≠ 45 ∧ st = 0 ∧ neg = false)) := by rw [hx0]; exact Hst.out
  clear hx0 Hst
  have hst1 : st ≤ l.length := by rcases Hx0.out with h | h <;> omega
  go_enter Trym.func20, Trym.ntmps20
  go_upto_if 21 with fail
  go_cut [5] from 13 to 22 (fun i wx => i = .int .i64 st ∧ wx = w.alloc (.cells #[.bool neg, .int .u64 0, .int .i64 0] 34))
  case first =>
    rcases Hx0.out with ⟨e1, e2, e3⟩ | ⟨e1, e2, e3⟩
    · subst e1 e2 e3
      go_wp2
      go_meet
      exact ⟨rfl, rfl⟩
    · subst e2 e3
      have hn45 : (x0 == 45) = false := by simpa using e1
      go_wp2
      go_meet
      exact ⟨rfl, rfl⟩
  case rest =>
    obtain ⟨rfl, rfl⟩ := hcut
    go_upto_block 0 with fail
    go_cut [5, 6, 7, 8, 9, 10] from 23 to 82 (fun i r z p f _ wx => ∃ (rd zs : Nat) (pt ft : Bool) (dg ex : Int), st ≤ en ∧ en ≤ l.length ∧ i = .int .i64 en ∧ r = .int .i64 rd ∧ z = .int .i64 zs ∧ p = .bool pt ∧ f = .bool ft ∧ wx = w.alloc (.cells #[.bool neg, .int .u64 dg, .int .i64 ex] 34) ∧ At l st en en rd zs pt ft dg ex)
    case first =>
      go_wp2_with fail
      go_loopw [5, 6, 7, 8, 9] (fun i r z p f wx => ∃ (k rd zs : Nat) (pt ft : Bool) (dg ex : Int), st ≤ k ∧ k ≤ l.length ∧ i = .int .i64 k ∧ r = .int .i64 rd ∧ z = .int .i64 zs ∧ p = .bool pt ∧ f = .bool ft ∧ wx = w.alloc (.cells #[.bool neg, .int .u64 dg, .int .i64 ex] 34) ∧ At l st en k rd zs pt ft dg ex) (fun i _ _ _ _ _ => l.length - (intOf i).toNat)
      case atStart => exact ⟨st, 0, 0, false, true, 0, 0, Nat.le_refl _, hst1, rfl, rfl, rfl, rfl, rfl, rfl, ⟨Nat.le_refl _, hst1, Hen.out, by rw [seg_self]; rfl, Nu.bd0 st⟩⟩
      case round =>
        obtain ⟨k, rd, zs, pt, ft, dg, ex, hk1, hk2, rfl, rfl, rfl, rfl, rfl, rfl, hA⟩ := hrel
        have HA : Hid (At l st en k rd zs pt ft dg ex) := hA
        obtain ⟨hb1, hb2, hb3, hb4, hb5, hb6⟩ := hA.2.2.2.2
        have hrz : rd + zs ≤ k := hb1
        have hex1 : -(k : Int) ≤ ex := hb2
        have hex2 : ex ≤ 0 := hb3
        have hdg0 : 0 ≤ dg := hb4
        have hdg1 : dg < 10 ^ rd := hb5
        have hrd19 : rd ≤ 19 := hb6
        clear hb1 hb2 hb3 hb4 hb5 hb6 hA
        by_cases hlt : k < l.length
        · obtain ⟨x, hx⟩ : ∃ x, x = l.getD k 0 := ⟨_, rfl⟩
          have hcx := HC.out k hlt
          rw [← hx] at hcx
          have HX : Hid (x = l.getD k 0) := hx
          clear hx
          by_cases hx46 : x = 46
          · have Hok : Hid (Nu.okc x) := .inl hx46
            subst hx46
            have HA1 : Hid (At l st en (k + 1) rd zs true ft (dg) (ex)) := HA.out.step _ hlt HX.out Hok.out (by simp [Nu.stp])
            go_wp2
            go_roundw
            case rel => exact ⟨k + 1, rd, zs, true, ft, dg, ex, by omega, by omega, by go_num, by go_num, by go_num, rfl, rfl, rfl, HA1.out⟩
            case measure => simp [intOf]; omega
          · have hn46 : (x == 46) = false := by simpa using hx46
            by_cases hd : 48 ≤ x ∧ x ≤ 57
            · obtain ⟨hd1, hd2⟩ := hd
              have Hok : Hid (Nu.okc x) := .inr ⟨hd1, hd2⟩
              cases pt
              · by_cases h48 : x = 48
                · subst h48
                  by_cases hrd : rd = 0
                  · subst hrd
                    have HA1 : Hid (At l st en (k + 1) 0 zs false ft (dg) (ex)) := HA.out.step _ hlt HX.out Hok.out (by simp [Nu.stp, Nu.lower])
                    go_wp2
                    go_roundw
                    case rel => exact ⟨k + 1, 0, zs, false, ft, dg, ex, by omega, by omega, by go_num, by go_num, by go_num, rfl, rfl, rfl, HA1.out⟩
                    case measure => simp [intOf]; omega
                  · have hrdb : ((rd : Int) == 0) = false := by simp; omega
                    have HA1 : Hid (At l st en (k + 1) rd (zs + 1) false ft (dg) (ex)) := HA.out.step _ hlt HX.out Hok.out (by simp [Nu.stp, Nu.lower, hrd])
                    go_wp2
                    go_roundw
                    case rel => exact ⟨k + 1, rd, (zs + 1), false, ft, dg, ex, by omega, by omega, by go_num, by go_num, by go_num, rfl, rfl, rfl, HA1.out⟩
                    case measure => simp [intOf]; omega
                · have hn48 : (x == 48) = false := by simpa using h48
                  by_cases h19 : 19 ≤ rd + zs
                  · have HA1 : Hid (At l st en (k + 1) rd zs false false (dg) (ex)) := HA.out.step _ hlt HX.out Hok.out (by simp [Nu.stp, Nu.lower, hx46, h48, h19])
                    go_wp2
                    go_roundw
                    case rel => exact ⟨k + 1, rd, zs, false, false, dg, ex, by omega, by omega, by go_num, by go_num, by go_num, rfl, rfl, rfl, HA1.out⟩
                    case measure => simp [intOf]; omega
                  · obtain ⟨P, hP⟩ : ∃ P, P = dg * 10 ^ zs := ⟨_, rfl⟩
                    have HP : Hid (P = dg * 10 ^ zs) := hP
                    have hgb := Nu.grow_bd dg rd zs hdg0 hdg1
                    rw [← hP] at hgb
                    have hpm := Nu.pow_mono (rd + zs) 18 (by omega)
                    have h18 : (10 : Int) ^ 18 = 1000000000000000000 := by decide
                    rw [h18] at hpm
                    have hP0 : 0 ≤ P := hgb.1
                    have hP1 : P < 1000000000000000000 := by omega
                    have HA1 : Hid (At l st en (k + 1) (rd + zs + 1) 0 false ft (P * 10 + (x - 48)) (ex)) := HA.out.step _ hlt HX.out Hok.out (by rw [HP.out]; simp [Nu.stp, Nu.lower, hx46, h48, h19])
                    clear hgb hpm h18 hP hdg1
                    go_wp2
                    go_loopw [6, 7] (fun r z wy => ∃ (q rr : Nat) (D : Int), rr + q ≤ rd + zs ∧ rd + zs ≤ rr + q ∧ 0 ≤ D ∧ r = .int .i64 rr ∧ z = .int .i64 q ∧ wy = w.alloc (.cells #[.bool neg, .int .u64 D, .int .i64 (ex)] 34) ∧ D * 10 ^ q = P) (fun _ z _ => (intOf z).toNat)
                    case atStart => exact ⟨zs, rd, dg, Nat.le_refl _, Nat.le_refl _, hdg0, rfl, rfl, rfl, HP.out.symm⟩
                    case round =>
                      obtain ⟨q, rr, D, hq1, hq2, hD0, rfl, rfl, rfl, hD⟩ := hrel
                      have HD : Hid (D * 10 ^ q = P) := hD
                      clear hD
                      by_cases hq0 : 0 < q
                      · obtain ⟨q', rfl⟩ : ∃ q', q = q' + 1 := ⟨q - 1, by omega⟩
                        have HD1 : Hid (D * 10 * 10 ^ q' = P) := by have := HD.out; rw [Int.pow_succ, Int.mul_comm (10 ^ q') 10, ← Int.mul_assoc] at this; exact this
                        have hD10 : D * 10 < 1000000000000000000 := by
                          have h1 := Int.mul_le_mul_of_nonneg_left (show (1 : Int) ≤ 10 ^ q' by have := Nu.pow_pos10 q'; omega) (show 0 ≤ D * 10 by omega)
                          rw [Int.mul_one, HD1.out] at h1
                          omega
                        go_wp2
                        go_roundw
                        case rel => exact ⟨q', rr + 1, D * 10, by omega, by omega, by omega, by go_num, by go_num, rfl, HD1.out⟩
                        case measure => simp [intOf]
                      · obtain rfl : q = 0 := by omega
                        obtain rfl : D = P := by have := HD.out; simpa using this
                        obtain rfl : rr = rd + zs := by omega
                        clear HD hq1 hq2 hq0
                        go_wp2
                        go_roundw
                        case rel => exact ⟨k + 1, rd + zs + 1, 0, false, ft, D * 10 + (x - 48), ex, by omega, by omega, by go_num, by go_num, by go_num, rfl, rfl, rfl, HA1.out⟩
                        case measure => simp [intOf]; omega
              · by_cases h48 : x = 48
                · subst h48
                  by_cases hrd : rd = 0
                  · subst hrd
                    have HA1 : Hid (At l st en (k + 1) 0 zs true ft (dg) (ex - 1)) := HA.out.step _ hlt HX.out Hok.out (by simp [Nu.stp, Nu.lower])
                    go_wp2
                    go_roundw
                    case rel => exact ⟨k + 1, 0, zs, true, ft, dg, ex - 1, by omega, by omega, by go_num, by go_num, by go_num, rfl, rfl, rfl, HA1.out⟩
                    case measure => simp [intOf]; omega
                  · have hrdb : ((rd : Int) == 0) = false := by simp; omega
                    have HA1 : Hid (At l st en (k + 1) rd (zs + 1) true ft (dg) (ex - 1)) := HA.out.step _ hlt HX.out Hok.out (by simp [Nu.stp, Nu.lower, hrd])
                    go_wp2
                    go_roundw
                    case rel => exact ⟨k + 1, rd, (zs + 1), true, ft, dg, ex - 1, by omega, by omega, by go_num, by go_num, by go_num, rfl, rfl, rfl, HA1.out⟩
                    case measure => simp [intOf]; omega
                · have hn48 : (x == 48) = false := by simpa using h48
                  by_cases h19 : 19 ≤ rd + zs
                  · have HA1 : Hid (At l st en (k + 1) rd zs true false (dg) (ex - 1)) := HA.out.step _ hlt HX.out Hok.out (by simp [Nu.stp, Nu.lower, hx46, h48, h19])
                    go_wp2
                    go_roundw
                    case rel => exact ⟨k + 1, rd, zs, true, false, dg, ex - 1, by omega, by omega, by go_num, by go_num, by go_num, rfl, rfl, rfl, HA1.out⟩
                    case measure => simp [intOf]; omega
                  · obtain ⟨P, hP⟩ : ∃ P, P = dg * 10 ^ zs := ⟨_, rfl⟩
                    have HP : Hid (P = dg * 10 ^ zs) := hP
                    have hgb := Nu.grow_bd dg rd zs hdg0 hdg1
                    rw [← hP] at hgb
                    have hpm := Nu.pow_mono (rd + zs) 18 (by omega)
                    have h18 : (10 : Int) ^ 18 = 1000000000000000000 := by decide
                    rw [h18] at hpm
                    have hP0 : 0 ≤ P := hgb.1
                    have hP1 : P < 1000000000000000000 := by omega
                    have HA1 : Hid (At l st en (k + 1) (rd + zs + 1) 0 true ft (P * 10 + (x - 48)) (ex - 1)) := HA.out.step _ hlt HX.out Hok.out (by rw [HP.out]; simp [Nu.stp, Nu.lower, hx46, h48, h19])
                    clear hgb hpm h18 hP hdg1
                    go_wp2
                    go_loopw [6, 7] (fun r z wy => ∃ (q rr : Nat) (D : Int), rr + q ≤ rd + zs ∧ rd + zs ≤ rr + q ∧ 0 ≤ D ∧ r = .int .i64 rr ∧ z = .int .i64 q ∧ wy = w.alloc (.cells #[.bool neg, .int .u64 D, .int .i64 (ex - 1)] 34) ∧ D * 10 ^ q = P) (fun _ z _ => (intOf z).toNat)
                    case atStart => exact ⟨zs, rd, dg, Nat.le_refl _, Nat.le_refl _, hdg0, rfl, rfl, rfl, HP.out.symm⟩
                    case round =>
                      obtain ⟨q, rr, D, hq1, hq2, hD0, rfl, rfl, rfl, hD⟩ := hrel
                      have HD : Hid (D * 10 ^ q = P) := hD
                      clear hD
                      by_cases hq0 : 0 < q
                      · obtain ⟨q', rfl⟩ : ∃ q', q = q' + 1 := ⟨q - 1, by omega⟩
                        have HD1 : Hid (D * 10 * 10 ^ q' = P) := by have := HD.out; rw [Int.pow_succ, Int.mul_comm (10 ^ q') 10, ← Int.mul_assoc] at this; exact this
                        have hD10 : D * 10 < 1000000000000000000 := by
                          have h1 := Int.mul_le_mul_of_nonneg_left (show (1 : Int) ≤ 10 ^ q' by have := Nu.pow_pos10 q'; omega) (show 0 ≤ D * 10 by omega)
                          rw [Int.mul_one, HD1.out] at h1
                          omega
                        go_wp2
                        go_roundw
                        case rel => exact ⟨q', rr + 1, D * 10, by omega, by omega, by omega, by go_num, by go_num, rfl, HD1.out⟩
                        case measure => simp [intOf]
                      · obtain rfl : q = 0 := by omega
                        obtain rfl : D = P := by have := HD.out; simpa using this
                        obtain rfl : rr = rd + zs := by omega
                        clear HD hq1 hq2 hq0
                        go_wp2
                        go_roundw
                        case rel => exact ⟨k + 1, rd + zs + 1, 0, true, ft, D * 10 + (x - 48), ex - 1, by omega, by omega, by go_num, by go_num, by go_num, rfl, rfl, rfl, HA1.out⟩
                        case measure => simp [intOf]; omega
            · have hen : k = en := by have := HA.out.2.2.1; rw [mn_no l k hlt (by rw [← HX.out]; rintro (h | h); exact hx46 h; exact hd h)] at this; omega
              subst hen
              by_cases hlo : x < 48
              · go_wp2
                go_meet
                exact ⟨rd, zs, pt, ft, dg, ex, hk1, hk2, rfl, rfl, rfl, rfl, rfl, rfl, HA.out⟩
              · have hhi : 57 < x := by omega
                clear hd
                go_wp2
                go_meet
                exact ⟨rd, zs, pt, ft, dg, ex, hk1, hk2, rfl, rfl, rfl, rfl, rfl, rfl, HA.out⟩
        · have hen : k = en := by have := HA.out.2.2.1; rw [List.drop_of_length_le (show l.length ≤ k by omega)] at this; exact this.symm
          subst hen
          go_wp2
          go_meet
          exact ⟨rd, zs, pt, ft, dg, ex, hk1, hk2, rfl, rfl, rfl, rfl, rfl, rfl, HA.out⟩
    case rest =>
      obtain ⟨rd, zs, pt, ft, dg, ex, hse, hel, rfl, rfl, rfl, rfl, rfl, rfl, hA⟩ := hcut
      obtain ⟨hb1, hb2, hb3, hb4, hb5, hb6⟩ := hA.2.2.2.2
      have hrz : rd + zs ≤ en := hb1
      have hex1 : -(en : Int) ≤ ex := hb2
      have hex2 : ex ≤ 0 := hb3
      have hdg0 : 0 ≤ dg := hb4
      have heq := hA.2.2.2.1.symm.trans HS.out
      rw [Nu.RS.mk.injEq] at heq
      obtain ⟨rfl, rfl, rfl, rfl, rfl, rfl⟩ := heq
      clear hb1 hb2 hb3 hb4 hb5 hb6 hA HS
      rcases HE.out with ⟨hen, hx, hE, hLEN⟩ | ⟨hx, hE, hLEN⟩
      · obtain ⟨x, hxx⟩ : ∃ x, x = l.getD en 0 := ⟨_, rfl⟩
        have hcx := HC.out en hen
        rw [← hxx] at hcx hx
        obtain ⟨EL, hEL⟩ : ∃ EL, Nu.exL (l.drop (en + 1)) = EL := ⟨_, rfl⟩
        have HEE : Hid (Nu.exE (l.drop (en + 1)) = E) := hE
        have HEL : Hid (Nu.exL (l.drop (en + 1)) = EL) := hEL
        have HLEN2 : Hid ((LEN : Int) = (en : Int) + (1 + (EL : Int))) := by show (LEN : Int) = (en : Int) + (1 + (EL : Int)); rw [hLEN, hEL]; omega
        have hEb := exE_bd (l.drop (en + 1))
        rw [hE] at hEb
        obtain ⟨hE1, hE2⟩ := hEb
        have hELb : EL ≤ l.length := by have := Nu.exL_le (l.drop (en + 1)); rw [hEL, List.length_drop] at this; omega
        clear hxx hE hEL hLEN HE
        by_cases hfull : en + 1 = cap
        · have HBA : Hid (∀ o, Bs (w.alloc o) (some ⟨b, off, none⟩) (l.drop (en + 1))) := fun o => .inl (List.drop_of_length_le (by omega))
          rcases hx with hx | hx
          all_goals
            subst hx
            cases ft
            · have HR1 : Hid (rNeg neg false dg = neg) := rNeg_no neg dg
              have HR2 : Hid (rEx false dg ex zs E = ex + zs + E) := rEx_no dg ex zs E
              go_wp2_with (go_at_call 17; refine (exponentOf_is _ _ _ EL E (l.drop (en + 1)) _ HEE.out HEL.out (by rw [List.length_drop]; omega) (HBA.out _) (by rw [List.length_drop]; omega)).mono ?_; rintro e w'' ⟨rfl, rfl⟩)
              exact bodyPost_ret (v := .tuple #[.agg #[.bool neg, .int .u64 dg, .int .i64 (ex + zs + E)], .bool false, .int .i64 ((en : Int) + (1 + (EL : Int)))]) (by simp [results, Trym.results20, go_sem]) rfl ⟨by rw [HR1.out, HR2.out, HLEN2.out], (Below.refl _ _).alloc (Nat.le_refl _) _⟩
            · by_cases hdz : dg = 0
              · subst hdz
                have HR1 : Hid (rNeg neg true 0 = false) := rNeg_zero neg
                have HR2 : Hid (rEx true 0 ex zs E = 0) := rEx_zero ex zs E
                go_wp2_with (go_at_call 17; refine (exponentOf_is _ _ _ EL E (l.drop (en + 1)) _ HEE.out HEL.out (by rw [List.length_drop]; omega) (HBA.out _) (by rw [List.length_drop]; omega)).mono ?_; rintro e w'' ⟨rfl, rfl⟩)
                exact bodyPost_ret (v := .tuple #[.agg #[.bool false, .int .u64 0, .int .i64 (0)], .bool true, .int .i64 ((en : Int) + (1 + (EL : Int)))]) (by simp [results, Trym.results20, go_sem]) rfl ⟨by rw [HR1.out, HR2.out, HLEN2.out], (Below.refl _ _).alloc (Nat.le_refl _) _⟩
              · have hdzb : (dg == 0) = false := by simpa using hdz
                have HR1 : Hid (rNeg neg true dg = neg) := rNeg_some neg dg hdz
                have HR2 : Hid (rEx true dg ex zs E = ex + zs + E) := rEx_some dg ex zs E hdz
                go_wp2_with (go_at_call 17; refine (exponentOf_is _ _ _ EL E (l.drop (en + 1)) _ HEE.out HEL.out (by rw [List.length_drop]; omega) (HBA.out _) (by rw [List.length_drop]; omega)).mono ?_; rintro e w'' ⟨rfl, rfl⟩)
                exact bodyPost_ret (v := .tuple #[.agg #[.bool neg, .int .u64 dg, .int .i64 (ex + zs + E)], .bool true, .int .i64 ((en : Int) + (1 + (EL : Int)))]) (by simp [results, Trym.results20, go_sem]) rfl ⟨by rw [HR1.out, HR2.out, HLEN2.out], (Below.refl _ _).alloc (Nat.le_refl _) _⟩
        · have HBA : Hid (∀ o, Bs (w.alloc o) (some ⟨b, off + (en + 1), none⟩) (l.drop (en + 1))) := fun o => Bs.drop (en + 1) (fun i hi => (World.cell?_alloc_past o b (off + i) hb).trans (HC.out i hi))
          rcases hx with hx | hx
          all_goals
            subst hx
            cases ft
            · have HR1 : Hid (rNeg neg false dg = neg) := rNeg_no neg dg
              have HR2 : Hid (rEx false dg ex zs E = ex + zs + E) := rEx_no dg ex zs E
              go_wp2_with (go_at_call 17; refine (exponentOf_is _ _ _ EL E (l.drop (en + 1)) _ HEE.out HEL.out (by rw [List.length_drop]; omega) (HBA.out _) (by rw [List.length_drop]; omega)).mono ?_; rintro e w'' ⟨rfl, rfl⟩)
              exact bodyPost_ret (v := .tuple #[.agg #[.bool neg, .int .u64 dg, .int .i64 (ex + zs + E)], .bool false, .int .i64 ((en : Int) + (1 + (EL : Int)))]) (by simp [results, Trym.results20, go_sem]) rfl ⟨by rw [HR1.out, HR2.out, HLEN2.out], (Below.refl _ _).alloc (Nat.le_refl _) _⟩
            · by_cases hdz : dg = 0
              · subst hdz
                have HR1 : Hid (rNeg neg true 0 = false) := rNeg_zero neg
                have HR2 : Hid (rEx true 0 ex zs E = 0) := rEx_zero ex zs E
                go_wp2_with (go_at_call 17; refine (exponentOf_is _ _ _ EL E (l.drop (en + 1)) _ HEE.out HEL.out (by rw [List.length_drop]; omega) (HBA.out _) (by rw [List.length_drop]; omega)).mono ?_; rintro e w'' ⟨rfl, rfl⟩)
                exact bodyPost_ret (v := .tuple #[.agg #[.bool false, .int .u64 0, .int .i64 (0)], .bool true, .int .i64 ((en : Int) + (1 + (EL : Int)))]) (by simp [results, Trym.results20, go_sem]) rfl ⟨by rw [HR1.out, HR2.out, HLEN2.out], (Below.refl _ _).alloc (Nat.le_refl _) _⟩
              · have hdzb : (dg == 0) = false := by simpa using hdz
                have HR1 : Hid (rNeg neg true dg = neg) := rNeg_some neg dg hdz
                have HR2 : Hid (rEx true dg ex zs E = ex + zs + E) := rEx_some dg ex zs E hdz
                go_wp2_with (go_at_call 17; refine (exponentOf_is _ _ _ EL E (l.drop (en + 1)) _ HEE.out HEL.out (by rw [List.length_drop]; omega) (HBA.out _) (by rw [List.length_drop]; omega)).mono ?_; rintro e w'' ⟨rfl, rfl⟩)
                exact bodyPost_ret (v := .tuple #[.agg #[.bool neg, .int .u64 dg, .int .i64 (ex + zs + E)], .bool true, .int .i64 ((en : Int) + (1 + (EL : Int)))]) (by simp [results, Trym.results20, go_sem]) rfl ⟨by rw [HR1.out, HR2.out, HLEN2.out], (Below.refl _ _).alloc (Nat.le_refl _) _⟩
      · have HE0 : Hid (E = 0) := hE
        have HLEN : Hid (LEN = en) := hLEN
        clear hE hLEN HE
        by_cases hen : en < l.length
        · obtain ⟨x, hxx⟩ : ∃ x, x = l.getD en 0 := ⟨_, rfl⟩
          have hcx := HC.out en hen
          have hx2 := hx hen
          rw [← hxx] at hcx hx2
          have h101 : (x == 101) = false := by simpa using hx2.1
          have h69 : (x == 69) = false := by simpa using hx2.2
          clear hx hxx hx2
          cases ft
          · have HR1 : Hid (rNeg neg false dg = neg) := rNeg_no neg dg
            have HR2 : Hid (rEx false dg ex zs E = ex + zs) := by show rEx false dg ex zs E = ex + zs; rw [rEx_no, HE0.out]; omega
            go_wp2
            exact bodyPost_ret (v := .tuple #[.agg #[.bool neg, .int .u64 dg, .int .i64 (ex + zs)], .bool false, .int .i64 en]) (by simp [results, Trym.results20, go_sem]) rfl ⟨by rw [HR1.out, HR2.out, HLEN.out], (Below.refl _ _).alloc (Nat.le_refl _) _⟩
          · by_cases hdz : dg = 0
            · subst hdz
              have HR1 : Hid (rNeg neg true 0 = false) := rNeg_zero neg
              have HR2 : Hid (rEx true 0 ex zs E = 0) := rEx_zero ex zs E
              go_wp2
              exact bodyPost_ret (v := .tuple #[.agg #[.bool false, .int .u64 0, .int .i64 (0)], .bool true, .int .i64 en]) (by simp [results, Trym.results20, go_sem]) rfl ⟨by rw [HR1.out, HR2.out, HLEN.out], (Below.refl _ _).alloc (Nat.le_refl _) _⟩
            · have hdzb : (dg == 0) = false := by simpa using hdz
              have HR1 : Hid (rNeg neg true dg = neg) := rNeg_some neg dg hdz
              have HR2 : Hid (rEx true dg ex zs E = ex + zs) := by show rEx true dg ex zs E = ex + zs; rw [rEx_some dg ex zs E hdz, HE0.out]; omega
              go_wp2
              exact bodyPost_ret (v := .tuple #[.agg #[.bool neg, .int .u64 dg, .int .i64 (ex + zs)], .bool true, .int .i64 en]) (by simp [results, Trym.results20, go_sem]) rfl ⟨by rw [HR1.out, HR2.out, HLEN.out], (Below.refl _ _).alloc (Nat.le_refl _) _⟩
        · clear hx
          cases ft
          · have HR1 : Hid (rNeg neg false dg = neg) := rNeg_no neg dg
            have HR2 : Hid (rEx false dg ex zs E = ex + zs) := by show rEx false dg ex zs E = ex + zs; rw [rEx_no, HE0.out]; omega
            go_wp2
            exact bodyPost_ret (v := .tuple #[.agg #[.bool neg, .int .u64 dg, .int .i64 (ex + zs)], .bool false, .int .i64 en]) (by simp [results, Trym.results20, go_sem]) rfl ⟨by rw [HR1.out, HR2.out, HLEN.out], (Below.refl _ _).alloc (Nat.le_refl _) _⟩
          · by_cases hdz : dg = 0
            · subst hdz
              have HR1 : Hid (rNeg neg true 0 = false) := rNeg_zero neg
              have HR2 : Hid (rEx true 0 ex zs E = 0) := rEx_zero ex zs E
              go_wp2
              exact bodyPost_ret (v := .tuple #[.agg #[.bool false, .int .u64 0, .int .i64 (0)], .bool true, .int .i64 en]) (by simp [results, Trym.results20, go_sem]) rfl ⟨by rw [HR1.out, HR2.out, HLEN.out], (Below.refl _ _).alloc (Nat.le_refl _) _⟩
            · have hdzb : (dg == 0) = false := by simpa using hdz
              have HR1 : Hid (rNeg neg true dg = neg) := rNeg_some neg dg hdz
              have HR2 : Hid (rEx true dg ex zs E = ex + zs) := by show rEx true dg ex zs E = ex + zs; rw [rEx_some dg ex zs E hdz, HE0.out]; omega
              go_wp2
              exact bodyPost_ret (v := .tuple #[.agg #[.bool neg, .int .u64 dg, .int .i64 (ex + zs)], .bool true, .int .i64 en]) (by simp [results, Trym.results20, go_sem]) rfl ⟨by rw [HR1.out, HR2.out, HLEN.out], (Below.refl _ _).alloc (Nat.le_refl _) _⟩
end Go.Proofs.Qxb6606062aMods
