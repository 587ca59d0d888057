/-
  SEAT b6606062aM: zzB1ReadModel at every text; what ties it to readNumber.
-/
import Derived.Test.Qxb6606062aModsRModel
namespace Go.Proofs.Qxb6606062aMods
open Go.RowKit

set_option maxHeartbeats 1600000 in
set_option maxRecDepth 100000 in
theorem readModel_nil (a : Option Addr) (cap : Nat) (w : World) :
    Calls Trym.prog 16 #[.slice a 0 cap] w fun e w' => e = .returned (.tuple #[.bool false, .int .u64 0, .int .i64 0, .bool true, .int .i64 0]) ∧ w = w' := by
  go_enter Trym.func16, Trym.ntmps16
  go_wp2
  go_loop [9] (fun e => e = .int .i64 0) (fun _ => 0)
  case atStart => rfl
  case round =>
    subst hrel
    go_wp2
    go_loop [10, 11, 12, 13, 14] (fun a p f t j => a = .int .i64 0 ∧ p = .bool false ∧ f = .int .i64 (-1) ∧ t = .int .i64 (-1) ∧ j = .int .i64 0) (fun _ _ _ _ _ => 0)
    case atStart => exact ⟨rfl, rfl, rfl, rfl, rfl⟩
    case round =>
      obtain ⟨rfl, rfl, rfl, rfl, rfl⟩ := hrel
      go_wp2
      exact bodyPost_ret (v := .tuple #[.bool false, .int .u64 0, .int .i64 0, .bool true, .int .i64 0]) (by simp [results, Trym.results16, go_sem]) rfl ⟨rfl, rfl⟩

theorem readModel_is (a : Option Addr) (n cap st en : Nat) (neg : Bool) (l : List Int) (w : World) (hn : n = l.length) (hB : Bs w a l) (hl : l.length ≤ 4194304) (hcap : n ≤ cap) (hst : Head l st neg) (hen : en = st + Nu.mn (l.drop st))
    (E : Int) (LEN AP : Nat) (PT : Bool) (FI LA : Int) (HE : Tail l en E LEN) (HS : Nu.mrun st (seg l st en) = ⟨AP, PT, FI, LA⟩) (A : Bool) (D X : Int) (OK : Bool) (HM : MAns l en neg E AP FI LA A D X OK) :
    Calls Trym.prog 16 #[.slice a n cap] w fun e w' => e = .returned (.tuple #[.bool A, .int .u64 D, .int .i64 X, .bool OK, .int .i64 LEN]) ∧ w = w' := by
  by_cases h0 : 0 < l.length
  · obtain ⟨b, off, rfl, hc⟩ : ∃ b off, a = some ⟨b, off, none⟩ ∧ ∀ i, i < l.length → w.cell? ⟨b, off + i, none⟩ = some (.int .u8 (l.getD i 0)) := by
      rcases hB with rfl | h
      · simp at h0
      · exact h
    refine readModel_some b off n cap st en neg l w hn (by omega) (by omega) h0 hc hl (by omega) ?_ hen E LEN AP PT FI LA HE HS A D X OK HM
    rcases hst with ⟨_, h1, h2, h3⟩ | ⟨h1, h2, h3⟩
    · exact .inl ⟨h1, h2, h3⟩
    · exact .inr ⟨h1 h0, h2, h3⟩
  · obtain rfl : l = [] := List.eq_nil_of_length_eq_zero (by omega)
    subst hn
    rcases hst with ⟨h1, _⟩ | ⟨_, rfl, rfl⟩
    · simp at h1
    · obtain rfl : en = 0 := by simpa [Nu.mn] using hen
      rcases HE with ⟨h1, _⟩ | ⟨_, rfl, rfl⟩
      · simp at h1
      · have hr : Nu.mrun 0 (seg [] 0 0) = ⟨0, false, -1, -1⟩ := rfl
        rw [hr, Nu.MS.mk.injEq] at HS
        obtain ⟨rfl, rfl, rfl, rfl⟩ := HS
        obtain ⟨rfl, rfl, rfl, rfl⟩ := HM.1 (by omega)
        exact readModel_nil a cap w

/-- The three parts of a segment are segments. -/
theorem seg_split (l A C B : List Int) (st en : Nat) (h : seg l st en = A ++ C ++ B) (h1 : st ≤ en) (h2 : en ≤ l.length) :
    seg l (st + A.length) (st + A.length + C.length) = C ∧ seg l (st + A.length + C.length) en = B ∧ st + A.length + C.length ≤ en := by
  have hlen : A.length + C.length + B.length = en - st := by
    have := congrArg List.length h
    rw [seg_take, List.length_take, List.length_drop, List.length_append, List.length_append] at this
    omega
  have hd : ∀ m, seg l (st + m) en = (A ++ C ++ B).drop m := fun m => by rw [← h]; unfold seg; rw [List.drop_drop]
  refine ⟨?_, ?_, by omega⟩
  · have h3 := hd A.length
    rw [List.append_assoc, List.drop_left' rfl, seg_take] at h3
    have h4 := congrArg (List.take C.length) h3
    rw [List.take_take, List.take_left' rfl, Nat.min_eq_left (by omega)] at h4
    rw [seg_take, Nat.add_sub_cancel_left]
    exact h4
  · have h3 := hd (A.length + C.length)
    rw [List.drop_left' (by simp), ← Nat.add_assoc] at h3
    exact h3

/-- THE TIE: what the model answers is what readNumber answers. -/
theorem tie (l : List Int) (st en : Nat) (neg : Bool) (hen : en = st + Nu.mn (l.drop st)) (h1 : st ≤ l.length)
    (E : Int) (RD ZS AP : Nat) (PT FT PM : Bool) (DG EX FI LA : Int) (HS : Nu.run (seg l st en) = ⟨RD, ZS, PT, FT, DG, EX⟩) (HM : Nu.mrun st (seg l st en) = ⟨AP, PM, FI, LA⟩) :
    (FT = false → MAns l en neg E AP FI LA neg 0 0 false) ∧ (FT = true → MAns l en neg E AP FI LA (rNeg neg FT DG) DG (rEx FT DG EX ZS E) true) := by
  have hel : en ≤ l.length := by have h2 := Nu.mn_le (l.drop st); rw [List.length_drop] at h2; omega
  have hok : ∀ c ∈ seg l st en, Nu.okc c := by
    have : seg l st en = (l.drop st).take (Nu.mn (l.drop st)) := by rw [seg_take, hen, Nat.add_sub_cancel_left]
    rw [this]; exact Nu.mn_ok _
  have hJ := Nu.J_run st (seg l st en) hok
  rw [HS, HM] at hJ
  obtain ⟨_, hex, hJ⟩ := hJ
  have hex' : EX = -(AP : Int) := hex
  rcases hJ with ⟨g1, g2, g3, g4, g5⟩ | ⟨A, C, B, e, f1, f2, f3, f4, f5, f6⟩
  · have g1' : FI = -1 := g1
    have g4' : DG = 0 := g4
    have g5' : FT = true := g5
    subst g1' g4' g5'
    refine ⟨(fun h => by cases h), fun _ => ?_⟩
    rw [rNeg_zero, rEx_zero]
    exact ⟨fun _ => ⟨rfl, rfl, rfl, rfl⟩, fun F G hF => by omega⟩
  · obtain ⟨s1, s2, s3⟩ := seg_split l A C B st en e (by omega) hel
    have f1' : FI = ((st + A.length : Nat) : Int) := f1
    have f2' : LA + 1 = ((st + A.length + C.length : Nat) : Int) := f2
    have key : ∀ F G : Nat, FI = (F : Int) → LA = (G : Int) → seg l F (G + 1) = C ∧ seg l (G + 1) en = B := by
      intro F G hF hG
      have eF : F = st + A.length := by omega
      have eG : G + 1 = st + A.length + C.length := by omega
      rw [eF, eG]
      exact ⟨s1, s2⟩
    by_cases hC : Nu.cnt C ≤ 19
    · obtain ⟨a1, a2, a3, a4⟩ := f5 hC
      have a1' : FT = true := a1
      have a3' : ZS = Nu.cnt B := a3
      have a4' : DG = Nu.pv C := a4
      subst a1'
      have hDG : DG ≠ 0 := by omega
      refine ⟨(fun h => by cases h), fun _ => ⟨fun h => by omega, fun F G hF hG => ?_⟩⟩
      obtain ⟨k1, k2⟩ := key F G hF hG
      rw [k1, k2, rNeg_some neg DG hDG, rEx_some DG EX ZS E hDG]
      exact ⟨fun h => by omega, fun _ => ⟨rfl, a4', by omega, rfl⟩⟩
    · obtain ⟨a1, _⟩ := f6 (by omega)
      have a1' : FT = false := a1
      subst a1'
      refine ⟨fun _ => ⟨fun h => by omega, fun F G hF hG => ?_⟩, fun h => by cases h⟩
      obtain ⟨k1, k2⟩ := key F G hF hG
      rw [k1, k2]
      exact ⟨fun _ => ⟨rfl, rfl, rfl, rfl⟩, fun h => by omega⟩

theorem head_ex (l : List Int) : ∃ st neg, Head l st neg ∧ st ≤ l.length := by
  by_cases h : 0 < l.length ∧ l.getD 0 0 = 45
  · exact ⟨1, true, .inl ⟨h.1, h.2, rfl, rfl⟩, h.1⟩
  · exact ⟨0, false, .inr ⟨fun h0 h1 => h ⟨h0, h1⟩, rfl, rfl⟩, Nat.zero_le _⟩
theorem tail_ex (l : List Int) (en : Nat) : ∃ E LEN, Tail l en E LEN := by
  by_cases h : en < l.length ∧ (l.getD en 0 = 101 ∨ l.getD en 0 = 69)
  · exact ⟨_, _, .inl ⟨h.1, h.2, rfl, rfl⟩⟩
  · refine ⟨0, en, .inr ⟨fun h0 => ⟨fun h1 => h ⟨h0, .inl h1⟩, fun h1 => h ⟨h0, .inr h1⟩⟩, rfl, rfl⟩⟩
theorem rs_ex (s : Nu.RS) : ∃ rd zs pt ft dg ex, s = ⟨rd, zs, pt, ft, dg, ex⟩ := ⟨_, _, _, _, _, _, rfl⟩
theorem ms_ex (m : Nu.MS) : ∃ ap pt fi la, m = ⟨ap, pt, fi, la⟩ := ⟨_, _, _, _, rfl⟩
end Go.Proofs.Qxb6606062aMods
