/-
  SEAT b6606062aM: zzB1Prefixed walked.
-/
import Derived.Test.Qxb6606062aModsExp
namespace Go.Proofs.Qxb6606062aMods
open Go.RowKit

theorem pre_zero (c : Int) (l : List Int) : (List.replicate (l.length + 1) (Value.int .u8 0)).set 0 (.int .u8 c) = bv (c :: part l 0) := by
  have e : bv (c :: part l 0) = Value.int .u8 c :: bv (part l 0) := rfl
  rw [e, part_zero]; rfl
theorem pre_step (c : Int) (l : List Int) (k : Nat) (h : k < l.length) : (bv (c :: part l k)).set (k + 1) (.int .u8 (l.getD k 0)) = bv (c :: part l (k + 1)) := by
  have e : ∀ m, bv (c :: part l m) = Value.int .u8 c :: bv (part l m) := fun m => rfl
  rw [e, e, List.set_cons_succ, part_step l k h]

set_option maxHeartbeats 800000 in
theorem prefixed_any (c : Int) (a : Option Addr) (n cap : Nat) (l : List Int) (w : World) (hn : n = l.length) (hB : Bs w a l) (hl : l.length ≤ 2097152) :
    Calls Trym.prog 12 #[.int .u8 c, .slice a n cap] w fun e w' => ∃ g, e = .returned (.slice (some ⟨g, 0, none⟩) (n + 1) (n + 1)) ∧ w'.ownsRow w.heap.size 5 1 (.slice (some ⟨g, 0, none⟩) (n + 1) (n + 1)) (n + 1) (bv (c :: l)) ∧ Below w.heap.size w w' := by
  obtain ⟨i0, hi, hz0, hz1, hz2⟩ := info_parts info5
  have hmb : i0.bytes * (n + 1) ≤ 281474976710656 := by rw [hz2]; omega
  have hml : n + 1 ≤ maxLen := by unfold maxLen; omega
  have HN : Hid (n = l.length) := hn
  have hn1 : n ≤ l.length := by omega
  have hn2 : l.length ≤ n := by omega
  clear hn
  go_enter Trym.func12, Trym.ntmps12
  go_wp2_with (at_make; refine wpList_make_full _ rfl _ _ 22 rfl w.heap.size 5 i0 (.int .u8 0) 1 Trym.underlying22 hi hz0 hz1 _ _ _ _ (n + 1) rfl rfl (by omega) (by omega) hmb hml (Nat.le_refl _) ?_)
  intro w1 hown hgrow
  rw [toList_madeCells_one] at hown
  have hbel : Below w.heap.size w w1 := (Below.refl _ _).grown hgrow (Nat.le_refl _) (fun k h => by cases h)
  obtain ⟨v0, hv0⟩ : ∃ v0, w1.cell? ⟨w.heap.size, 0, none⟩ = some v0 := by
    rw [hown.cellAt 0 (by omega)]
    exact ⟨_, List.getElem?_eq_getElem (by rw [List.length_replicate]; omega)⟩
  have hfz := hown.frozenAt 0
  have hst := hown.stored 0 (.int .u8 c)
  have HO : Hid ((w1.setCell ⟨w.heap.size, 0, none⟩ (.int .u8 c)).ownsRow w.heap.size 5 1 (.slice (some ⟨w.heap.size, 0, none⟩) (n + 1) (n + 1)) (n + 1) (bv (c :: part l 0)) ∧ Below w.heap.size w (w1.setCell ⟨w.heap.size, 0, none⟩ (.int .u8 c))) := by
    refine ⟨?_, hbel.setCell (Nat.le_refl _) _⟩
    rw [← pre_zero, ← HN.out]; exact hst.1
  clear hst hown hgrow hbel
  go_wp2
  go_loopw [6] (fun i wr => ∃ k : Nat, k ≤ n ∧ i = .int .i64 k ∧ wr.ownsRow w.heap.size 5 1 (.slice (some ⟨w.heap.size, 0, none⟩) (n + 1) (n + 1)) (n + 1) (bv (c :: part l k)) ∧ Below w.heap.size w wr) (fun i _ => n - (intOf i).toNat)
  case atStart => exact ⟨0, Nat.zero_le _, rfl, HO.out.1, HO.out.2⟩
  case round =>
    obtain ⟨k, hk, rfl, ho, hb⟩ := hrel
    clear hv0 hfz HO
    by_cases hlt : k < n
    · obtain ⟨b, off, rfl, hc⟩ : ∃ b off, a = some ⟨b, off, none⟩ ∧ ∀ i, i < l.length → w.cell? ⟨b, off + i, none⟩ = some (.int .u8 (l.getD i 0)) := by
        rcases hB with rfl | h
        · simp at hn1; omega
        · exact h
      have hcw := hc k (by omega)
      have hbb : b < w.heap.size := World.block_lt_of_cell? w _ hcw
      have hcr : wr.cell? ⟨b, off + k, none⟩ = some (.int .u8 (l.getD k 0)) := (hb.cell (p := ⟨b, off + k, none⟩) hbb).trans hcw
      obtain ⟨x, hx⟩ : ∃ x, x = l.getD k 0 := ⟨_, rfl⟩
      rw [← hx] at hcr
      obtain ⟨v0, hv0⟩ : ∃ v0, wr.cell? ⟨w.heap.size, k + 1, none⟩ = some v0 := by
        rw [ho.cellAt (k + 1) (by omega)]
        exact ⟨_, List.getElem?_eq_getElem (by rw [bv_length, List.length_cons, part_length l k (by omega)]; omega)⟩
      have hfz := ho.frozenAt (k + 1)
      have hst := ho.stored (k + 1) (.int .u8 x)
      have HO : Hid ((wr.setCell ⟨w.heap.size, k + 1, none⟩ (.int .u8 x)).ownsRow w.heap.size 5 1 (.slice (some ⟨w.heap.size, 0, none⟩) (n + 1) (n + 1)) (n + 1) (bv (c :: part l (k + 1))) ∧ Below w.heap.size w (wr.setCell ⟨w.heap.size, k + 1, none⟩ (.int .u8 x))) := by
        refine ⟨?_, hb.setCell (Nat.le_refl _) _⟩
        rw [← pre_step c l k (by omega), ← hx]; exact hst.1
      clear hx hst ho hc hcw hB
      go_wp2
      go_roundw
      case rel => exact ⟨k + 1, by omega, by go_num, HO.out.1, HO.out.2⟩
      case measure => simp [intOf]; omega
    · have HO : Hid (wr.ownsRow w.heap.size 5 1 (.slice (some ⟨w.heap.size, 0, none⟩) (n + 1) (n + 1)) (n + 1) (bv (c :: l)) ∧ Below w.heap.size w wr) := by
        refine ⟨?_, hb⟩
        rw [show k = l.length by omega, part_all] at ho; exact ho
      clear ho hb hB
      go_wp2
      go_ret
      exact ⟨_, rfl, HO.out.1, HO.out.2⟩

theorem exponentOf_own (B g m cap L : Nat) (E : Int) (l : List Int) (w : World) (ho : w.ownsRow B 5 1 (.slice (some ⟨g, 0, none⟩) m cap) m (bv l)) (hE : Nu.exE l = E) (hL : Nu.exL l = L) (hl : l.length ≤ 4194304) :
    Calls Trym.prog 17 #[.slice (some ⟨g, 0, none⟩) m cap] w fun e w' => e = .returned (.tuple #[.int .i64 E, .int .i64 L]) ∧ w = w' := by
  obtain ⟨h1, h2, h3⟩ := owns_Bs ho
  exact exponentOf_is _ m cap L E l w hE hL h1 h3 hl
end Go.Proofs.Qxb6606062aMods
