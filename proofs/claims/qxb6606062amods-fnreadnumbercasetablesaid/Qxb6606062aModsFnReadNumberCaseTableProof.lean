/-
  THE PROOF OF 'Rows.FnReadNumberCaseTableSaid', over the shell that was given with the seat: the walk is filled in; all else is the shell's frame.
-/
import Derived.Test.Qxb6606062aModsBind
import Derived.WalkKit
import Derived.ProofKit
import Derived.OpenShut
import Derived.ShutString
import Derived.ChangeOld
import Derived.Below
namespace Go.Proofs.Qxb6606062aMods.fnReadNumberCaseTable
open Go.ChangeShapes Go.WideShapes Go.ChangeAt Go.RowKit
open Go.ChangeMaps (open_string shut_string)
set_option linter.unusedVariables false

theorem own : ownKnob Trym.prog.godebug = none := by kernel_rfl
theorem laidOut : laidOutB Trym.prog = true := by kernel_rfl

/-! ### STEP 1: THE WALK: the Go text returns true, AND WRITES NOTHING THAT WAS THERE: 'Below w.heap.size w w'' (Derived/Below.lean: '.refl', '.alloc', '.drew', '.setCell' at a new block, '.trans'). Open each 'IsRow' by 'rcases' AHEAD of 'go_enter'; part every test ahead of the walk. -/
theorem walk (a0 : Option Addr) (len0 cap0 : Nat) (z0 : List Int) (w : World) (w0 : IsRow .u8 w a0 len0 cap0 z0) :
    Calls Trym.prog 6 #[.slice a0 len0 cap0] w fun e w' => e = .returned (.bool true) ∧ Below w.heap.size w w' := by
  obtain ⟨l, hlen, hB, hnil, hcap, _⟩ := w0.bytes
  clear w0
  by_cases hbig : (1048576 : Int) < (len0 : Int)
  · go_enter Trym.func6, Trym.ntmps6
    go_wp2
    go_ret
    exact ⟨rfl, Below.refl _ _⟩
  · have hl : l.length ≤ 4194304 := by omega
    have HL : Hid (len0 = l.length) := hlen
    clear hlen
    obtain ⟨st, neg, hst, hst1⟩ := head_ex l
    obtain ⟨en, hen⟩ : ∃ en, en = st + Nu.mn (l.drop st) := ⟨_, rfl⟩
    obtain ⟨E, LEN, hE⟩ := tail_ex l en
    obtain ⟨RD, ZS, PT, FT, DG, EX, hR⟩ := rs_ex (Nu.run (seg l st en))
    obtain ⟨AP, PM, FI, LA, hM⟩ := ms_ex (Nu.mrun st (seg l st en))
    have ht := tie l st en neg hen hst1 E RD ZS AP PT FT PM DG EX FI LA hR hM
    have HH : Hid (Head l st neg) := hst
    have HEN : Hid (en = st + Nu.mn (l.drop st)) := hen
    have HE : Hid (Tail l en E LEN) := hE
    have HR : Hid (Nu.run (seg l st en) = ⟨RD, ZS, PT, FT, DG, EX⟩) := hR
    have HM : Hid (Nu.mrun st (seg l st en) = ⟨AP, PM, FI, LA⟩) := hM
    clear hst hen hE hR hM hst1
    obtain ⟨RN, hRN⟩ : ∃ RN, RN = rNeg neg FT DG := ⟨_, rfl⟩
    obtain ⟨RX, hRX⟩ : ∃ RX, RX = rEx FT DG EX ZS E := ⟨_, rfl⟩
    rw [← hRN, ← hRX] at ht
    have HZ : Hid (∀ (a : Option Addr) (cap : Nat) (w : World), Bs w a l → len0 ≤ cap → Calls Trym.prog 15 #[.slice a len0 cap] w fun e w' => e = .returned (.tuple #[.bool RN, .int .u64 DG, .int .i64 RX, .bool FT, .int .i64 LEN]) ∧ Below w.heap.size w w') := by
      intro a cap w hB hc
      rw [hRN, hRX]
      exact zread_is a len0 cap st en neg l w HL.out hB hl hc HH.out HEN.out E LEN RD ZS PT FT DG EX HE.out HR.out
    have HY : Hid (∀ (A : Bool) (D X : Int) (OK : Bool), MAns l en neg E AP FI LA A D X OK → ∀ (a : Option Addr) (cap : Nat) (w : World), Bs w a l → len0 ≤ cap → Calls Trym.prog 16 #[.slice a len0 cap] w fun e w' => e = .returned (.tuple #[.bool A, .int .u64 D, .int .i64 X, .bool OK, .int .i64 LEN]) ∧ w = w') :=
      fun A D X OK hA a cap w hB hc => readModel_is a len0 cap st en neg l w HL.out hB hl hc HH.out HEN.out E LEN AP PM FI LA HE.out HM.out A D X OK hA
    clear hRN hRX HH HEN HE HR HM
    cases FT
    · have HA : Hid (MAns l en neg E AP FI LA neg 0 0 false) := ht.1 rfl
      clear ht
      go_enter Trym.func6, Trym.ntmps6
      go_wp2_with (first | (go_at_call 8; refine (clone_at _ _ _ l _ HL.out hB hl hnil).mono ?_; rintro e w1 ⟨a', cap', rfl, hcap', hB', _, hbel⟩) | (go_at_call 15; refine (HZ.out _ _ _ hB' hcap').mono ?_; rintro e w2 ⟨rfl, hbel2⟩) | (go_at_call 16; refine (HY.out _ _ _ _ HA.out _ _ _ (hB'.later (Nat.le_refl _) hbel2) hcap').mono ?_; rintro e w'' ⟨rfl, rfl⟩) | go_in)
      go_ret
      exact ⟨rfl, hbel.trans (hbel2.mono hbel.size)⟩
    · have HA : Hid (MAns l en neg E AP FI LA RN DG RX true) := ht.2 rfl
      clear ht
      go_enter Trym.func6, Trym.ntmps6
      go_wp2_with (first | (go_at_call 8; refine (clone_at _ _ _ l _ HL.out hB hl hnil).mono ?_; rintro e w1 ⟨a', cap', rfl, hcap', hB', _, hbel⟩) | (go_at_call 15; refine (HZ.out _ _ _ hB' hcap').mono ?_; rintro e w2 ⟨rfl, hbel2⟩) | (go_at_call 16; refine (HY.out _ _ _ _ HA.out _ _ _ (hB'.later (Nat.le_refl _) hbel2) hcap').mono ?_; rintro e w'' ⟨rfl, rfl⟩) | go_in)
      go_ret
      exact ⟨rfl, hbel.trans (hbel2.mono hbel.size)⟩

/-! ### THE ROW's STEP: WRITTEN OUT: LEAVE IT -/
set_option maxRecDepth 100000 in
theorem lifted (os : Os) (started : os.Started) (H : Type) (enc : TypeId × Value → H) :
    ReturnsInHanded {} Trym.checked os 6 .any (Rows.fnReadNumberCaseTableSpec.pre6 enc Trym.prog Trym.f6 Rows.fnReadNumberCaseTableRow.domain false) (Rows.fnReadNumberCaseTableSpec.post enc Trym.prog Trym.f6 false true false false) := by
  refine returnsInHanded_of_change (C := Trym.checked) own started (by kernel_rfl) Trym.func6
    (ChangeSpec.witness6 (enc := enc) (C := Trym.checked) false ⟨#[], #[.slice none 0 0], []⟩ 8 (by kernel_rfl) (by kernel_rfl) (by kernel_rfl) (by kernel_rfl)) ?_
  intro W base args ds gs before hval0 hW hcnd _
  have hval : ∀ (j : Nat) t v, Trym.f6.params[j]? = some t → args[j]? = some v → Value.okWide Trym.prog W .any base t v := hval0
  have hW' := hW
  obtain ⟨p, q, hA0, hV, rfl, hfz, hnd⟩ := hW
  have hA : DataW.TrodAll enc Trym.prog W 0 (fun _ => true) true Trym.f6.params.toList args.toList ds p := hA0
  rw [Trym.params6] at hA hval
  obtain ⟨v0, vs0, d0, ds0, p0, q0, hargs, rfl, rfl, h0, r0⟩ := trodAll_cons hA
  obtain ⟨rfl, rfl, rfl⟩ := trodAll_nil r0
  obtain rfl : args = #[v0] := by cases args; simp_all
  obtain ⟨rfl, rfl⟩ := trodVars_none hV
  obtain ⟨a0, len0, cap0, rfl⟩ := okWide_slice Trym.underlying22 (hval 0 22 v0 rfl rfl)
  have k0 := h0
  have lt0 : ∀ x ∈ p0, x.block < W.heap.size := by obtain ⟨m, hm⟩ := k0; exact DataW.trod_lt m _ _ _ hm
  obtain ⟨z0, w0⟩ : ∃ zs, IsRow .u8 W a0 len0 cap0 zs := by
    obtain ⟨fuel, hf⟩ := h0
    rcases open_ints Trym.underlying22 Trym.underlying5 (by kernel_rfl) hf with ⟨hcs, _⟩ | ⟨x, l, c, zs, hcs, _, hl, hm, hz, _, hcell, hwz⟩
    · simp [Value.cells] at hcs
      obtain ⟨rfl, rfl, rfl⟩ := hcs
      exact ⟨[], .inl ⟨rfl, rfl, rfl, rfl⟩⟩
    · simp [Value.cells] at hcs
      obtain ⟨rfl, rfl, rfl⟩ := hcs
      exact ⟨zs, .inr ⟨_, rfl, hl, hm, by simpa using hz, hcell, hwz⟩⟩
  clear hA0 hval0
  refine (walk a0 len0 cap0 z0 W w0).mono fun e W' ⟨he, bel⟩ => ?_
  subst he
  exact ⟨_, rfl, _, _, _, [], _, [], hW', trodAll_mk1 (shut_bool Trym.underlying4 _), (trodAll_cons_mk (Below.trod laidOut (by kernel_rfl) (of_decide_eq_true (by kernel_rfl)) k0 bel lt0) trodAll_mk0), rfl, bel.frame _, fun h => by cases h⟩

theorem over : Rows.fnReadNumberCaseTableRow.holds Trym.pinned (OpenSpec.ofChange Rows.fnReadNumberCaseTableSpec) :=
  OpenClaim.holds_of_wide 6 Trym.f6 rfl rfl rfl rfl rfl rfl rfl ⟨rfl, rfl, rfl, rfl, rfl⟩ rfl rfl rfl rfl rfl (by kernel_rfl) Trym.func6 (by kernel_rfl)
    (of_decide_eq_true (by kernel_rfl)) (by unfold Func.isWrapper; first | (rw [if_pos (by decide +kernel)]; kernel_rfl) | (rw [if_neg (by decide +kernel)]; exact ⟨rfl, rfl⟩))
    (fun os started H enc _ => lifted os started H enc)

/-- ████ THE STATEMENT ████ -/
theorem proved : Rows.FnReadNumberCaseTableSaid := over
end Go.Proofs.Qxb6606062aMods.fnReadNumberCaseTable
