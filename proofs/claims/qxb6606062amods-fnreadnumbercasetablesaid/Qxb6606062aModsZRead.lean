/-
  SEAT b6606062aM: readNumber at every text; ZZB1ReadNumber.
-/
import Derived.Test.Qxb6606062aModsRead
import Derived.Deep.QuietTactic
import Derived.BigQuiet
import Derived.WalkSmall
namespace Go.Proofs.Qxb6606062aMods
open Go.RowKit

/-- THE SIGN AT THE HEAD, and where the mantissa starts. -/
def Head (l : List Int) (st : Nat) (neg : Bool) : Prop :=
  (0 < l.length ∧ l.getD 0 0 = 45 ∧ st = 1 ∧ neg = true) ∨ ((0 < l.length → l.getD 0 0 ≠ 45) ∧ st = 0 ∧ neg = false)

set_option maxHeartbeats 1600000 in
set_option maxRecDepth 100000 in
theorem readNumber_nil (a : Option Addr) (cap : Nat) (w : World) :
    Calls Trym.prog 20 #[.slice a 0 cap] w fun e w' => e = .returned (.tuple #[.agg #[.bool false, .int .u64 0, .int .i64 0], .bool true, .int .i64 0]) ∧ Below w.heap.size w w' := by
  go_enter Trym.func20, Trym.ntmps20
  go_wp2
  go_loopw [5, 6, 7, 8, 9] (fun i r z p f wx => i = .int .i64 0 ∧ r = .int .i64 0 ∧ z = .int .i64 0 ∧ p = .bool false ∧ f = .bool true ∧ wx = w.alloc (.cells #[.bool false, .int .u64 0, .int .i64 0] 34)) (fun _ _ _ _ _ _ => 0)
  case atStart => exact ⟨rfl, rfl, rfl, rfl, rfl, rfl⟩
  case round =>
    obtain ⟨rfl, rfl, rfl, rfl, rfl, rfl⟩ := hrel
    go_wp2
    exact bodyPost_ret (v := .tuple #[.agg #[.bool false, .int .u64 0, .int .i64 0], .bool true, .int .i64 0]) (by simp [results, Trym.results20, go_sem]) rfl ⟨rfl, (Below.refl _ _).alloc (Nat.le_refl _) _⟩

theorem readNumber_is (a : Option Addr) (n cap st en : Nat) (neg : Bool) (l : List Int) (w : World) (hn : n = l.length) (hB : Bs w a l) (hl : l.length ≤ 4194304) (hcap : n ≤ cap) (hst : Head l st neg) (hen : en = st + Nu.mn (l.drop st))
    (E : Int) (LEN RD ZS : Nat) (PT FT : Bool) (DG EX : Int) (HE : Tail l en E LEN) (HS : Nu.run (seg l st en) = ⟨RD, ZS, PT, FT, DG, EX⟩) :
    Calls Trym.prog 20 #[.slice a n cap] w fun e w' => e = .returned (.tuple #[.agg #[.bool (rNeg neg FT DG), .int .u64 DG, .int .i64 (rEx FT DG EX ZS E)], .bool FT, .int .i64 LEN]) ∧ Below w.heap.size w w' := by
  by_cases h0 : 0 < l.length
  · obtain ⟨b, off, rfl, hc⟩ : ∃ b off, a = some ⟨b, off, none⟩ ∧ ∀ i, i < l.length → w.cell? ⟨b, off + i, none⟩ = some (.int .u8 (l.getD i 0)) := by
      rcases hB with rfl | h
      · simp at h0
      · exact h
    have hb : b < w.heap.size := World.block_lt_of_cell? w _ (hc 0 h0)
    refine readNumber_some b off n cap st en neg l w (by omega) (by omega) h0 hc hl hb (by omega) ?_ hen E LEN RD ZS PT FT DG EX HE HS
    rcases hst with ⟨_, h1, h2, h3⟩ | ⟨h1, h2, h3⟩
    · exact .inl ⟨h1, h2, h3⟩
    · exact .inr ⟨h1 h0, h2, h3⟩
  · obtain rfl : l = [] := List.eq_nil_of_length_eq_zero (by omega)
    subst hn
    rcases hst with ⟨h1, _⟩ | ⟨_, rfl, rfl⟩
    · simp at h1
    · obtain rfl : en = 0 := by simpa [Nu.mn] using hen
      rcases HE with ⟨h1, _⟩ | ⟨_, rfl, rfl⟩
      · simp at h1
      · have hr : Nu.run (seg [] 0 0) = ⟨0, 0, false, true, 0, 0⟩ := rfl
        rw [hr, Nu.RS.mk.injEq] at HS
        obtain ⟨rfl, rfl, rfl, rfl, rfl, rfl⟩ := HS
        exact readNumber_nil a cap w

set_option maxHeartbeats 1600000 in
theorem zread_is (a : Option Addr) (n cap st en : Nat) (neg : Bool) (l : List Int) (w : World) (hn : n = l.length) (hB : Bs w a l) (hl : l.length ≤ 4194304) (hcap : n ≤ cap) (hst : Head l st neg) (hen : en = st + Nu.mn (l.drop st))
    (E : Int) (LEN RD ZS : Nat) (PT FT : Bool) (DG EX : Int) (HE : Tail l en E LEN) (HS : Nu.run (seg l st en) = ⟨RD, ZS, PT, FT, DG, EX⟩) :
    Calls Trym.prog 15 #[.slice a n cap] w fun e w' => e = .returned (.tuple #[.bool (rNeg neg FT DG), .int .u64 DG, .int .i64 (rEx FT DG EX ZS E), .bool FT, .int .i64 LEN]) ∧ Below w.heap.size w w' := by
  have H := readNumber_is a n cap st en neg l w hn hB hl hcap hst hen E LEN RD ZS PT FT DG EX HE HS
  clear hn hB hl hcap hst hen HE HS
  generalize rNeg neg FT DG = A at H ⊢
  generalize rEx FT DG EX ZS E = B at H ⊢
  have HH : Hid (Calls Trym.prog 20 #[.slice a n cap] w fun e w' => e = .returned (.tuple #[.agg #[.bool A, .int .u64 DG, .int .i64 B], .bool FT, .int .i64 LEN]) ∧ Below w.heap.size w w') := H
  clear H
  go_enter Trym.func15, Trym.ntmps15
  go_wp2_with (go_at_call 20; refine HH.out.mono ?_; rintro e w1 ⟨rfl, hbel⟩)
  go_quiet (fail)
  go_wp2
  exact bodyPost_ret (v := .tuple #[.bool A, .int .u64 DG, .int .i64 B, .bool FT, .int .i64 LEN]) (by simp [results, Trym.results15, go_sem]) rfl ⟨rfl, below_drewN (hbel.alloc hbel.size _) _⟩
end Go.Proofs.Qxb6606062aMods
