/-
  SEAT b6606062aM: slices of bytes in memory; zzB1CopyBytes walked.
-/
import Derived.Test.Qxb6606062aModsRows
import Derived.Test.Qxb6606062aModsPlain
import Derived.WalkKit
import Derived.ProofKit
import Derived.Below
import Derived.Lib.SliceRun
namespace Go.Proofs.Qxb6606062aMods
open Go.RowKit

/-- THE SLICE AT a HOLDS THE BYTES l (an empty one: wherever it points). -/
def Bs (w : World) (a : Option Addr) (l : List Int) : Prop :=
  l = [] ∨ ∃ b off, a = some ⟨b, off, none⟩ ∧ ∀ i, i < l.length → w.cell? ⟨b, off + i, none⟩ = some (.int .u8 (l.getD i 0))

theorem drop_cons (l : List Int) (k : Nat) (h : k < l.length) : l.drop k = l.getD k 0 :: l.drop (k + 1) := by
  rw [List.drop_eq_getElem_cons h, List.getD_eq_getElem?_getD, List.getElem?_eq_getElem h]; rfl

theorem ret_int {k : IntKind} {a b : Int} (h : a = b) : Ending.returned (.int k a) = .returned (.int k b) := by rw [h]

theorem Bs.drop {w : World} {b off : Nat} {l : List Int} (k : Nat) (h : ∀ i, i < l.length → w.cell? ⟨b, off + i, none⟩ = some (.int .u8 (l.getD i 0))) : Bs w (some ⟨b, off + k, none⟩) (l.drop k) := by
  refine .inr ⟨b, off + k, rfl, fun i hi => ?_⟩
  rw [List.length_drop] at hi
  rw [Nat.add_assoc, h (k + i) (by omega)]
  simp [List.getD_eq_getElem?_getD]

theorem ret_bool {a b : Bool} (h : a = b) : Ending.returned (.bool a) = .returned (.bool b) := by rw [h]

theorem info5 : (Trym.prog.info? 5).map (fun i => (i.zero, i.size, i.bytes)) = some (some (.int .u8 0), 1, 1) := by kernel_rfl

/-- THE CELLS OF A LIST OF BYTES. -/
def bv (l : List Int) : List Value := l.map (Value.int .u8)

theorem bv_length (l : List Int) : (bv l).length = l.length := by simp [bv]

/-- WHAT HAS BEEN COPIED OF l BEHIND k ROUNDS. -/
def part (l : List Int) (k : Nat) : List Int := l.take k ++ List.replicate (l.length - k) 0

theorem part_zero (l : List Int) : bv (part l 0) = List.replicate l.length (Value.int .u8 0) := by simp [part, bv]

theorem part_all (l : List Int) : part l l.length = l := by simp [part]

theorem part_length (l : List Int) (k : Nat) (h : k ≤ l.length) : (part l k).length = l.length := by simp [part]; omega

theorem part_step (l : List Int) (k : Nat) (h : k < l.length) : (bv (part l k)).set k (.int .u8 (l.getD k 0)) = bv (part l (k + 1)) := by
  unfold part bv
  apply List.ext_getElem?
  intro i
  rw [List.getElem?_set]
  have e1 : (l.take k).length = k := by simp; omega
  have e2 : (l.take (k + 1)).length = k + 1 := by simp; omega
  simp only [List.length_map, List.length_append, List.length_replicate, e1]
  by_cases h1 : k = i
  · subst h1
    rw [if_pos rfl, if_pos (by omega), List.getElem?_map, List.getElem?_append_left (by omega)]
    simp [h]
  · rw [if_neg h1, List.getElem?_map, List.getElem?_map]
    congr 1
    by_cases h2 : i < k
    · rw [List.getElem?_append_left (by omega), List.getElem?_append_left (by omega), List.getElem?_take_of_lt h2, List.getElem?_take_of_lt (by omega)]
    · rw [List.getElem?_append_right (by omega), List.getElem?_append_right (by omega), e1, e2, List.getElem?_replicate, List.getElem?_replicate]
      by_cases h3 : i < l.length
      · rw [if_pos (by omega), if_pos (by omega)]
      · rw [if_neg (by omega), if_neg (by omega)]

/-- A ROW THAT IS OWNED, READ AS BYTES. -/
theorem owns_bytes {w : World} {base : Nat} {v : Value} {n : Nat} {l : List Int} (h : w.ownsRow base 5 1 v n (bv l)) : n = l.length ∧ ∃ a cap, v = .slice a n cap ∧ n ≤ cap ∧ Bs w a l := by
  have hn : n = l.length := by have := h.1; rw [bv_length] at this; omega
  refine ⟨hn, ?_⟩
  subst hn
  rcases h.2 with ⟨rfl, h0⟩ | ⟨g, cap, cur, rfl, _, _, hcap, _⟩
  · have : l = [] := List.eq_nil_of_length_eq_zero h0
    subst this
    exact ⟨none, 0, rfl, Nat.le_refl _, .inl rfl⟩
  · refine ⟨_, cap, rfl, hcap, .inr ⟨g, 0, rfl, fun i hi => ?_⟩⟩
    rw [Nat.zero_add, h.cellAt i (by omega)]
    simp [bv, List.getD_eq_getElem?_getD, hi]

set_option maxHeartbeats 400000 in
theorem clone_any (a : Option Addr) (cap : Nat) (l : List Int) (w : World) (hB : Bs w a l) (hl : l.length ≤ 4194304) (hnil : a = none → l = []) :
    Calls Trym.prog 8 #[.slice a l.length cap] w fun e w' => ∃ v, e = .returned v ∧ w'.ownsRow w.heap.size 5 1 v l.length (bv l) ∧ Below w.heap.size w w' := by
  have q22 : ∀ (w : World) (a : Option Addr) (n c n' c' : Nat), (binOp .eql 22 (.slice a n c) (.slice none n' c')).run Trym.prog w = .ok (.bool a.isNone) w := fun w a n c n' c' => Lib.run_eql_slice_nil w _ _ a n c n' c' Trym.underlying22
  obtain ⟨i0, hi, hz0, hz1, hz2⟩ := info_parts info5
  have hmb : i0.bytes * l.length ≤ 281474976710656 := by rw [hz2]; omega
  have hml : l.length ≤ maxLen := by unfold maxLen; omega
  cases a with
  | none =>
    obtain rfl := hnil rfl
    simp only [List.length_nil]
    go_enter Trym.func8, Trym.ntmps8
    go_wp2
    go_ret
    exact ⟨_, rfl, World.ownsRow_nil _ _ _ _, Below.refl _ _⟩
  | some ad =>
    clear hnil
    go_enter Trym.func8, Trym.ntmps8
    go_wp2_with (at_make; refine wpList_make_full _ rfl _ _ 22 rfl w.heap.size 5 i0 (.int .u8 0) 1 Trym.underlying22 hi hz0 hz1 _ _ _ _ l.length rfl rfl rfl rfl hmb hml (Nat.le_refl _) ?_)
    intro w1 hown hgrow
    have hown1 : w1.ownsRow w.heap.size 5 1 (.slice (some ⟨w.heap.size, 0, none⟩) l.length l.length) l.length (bv (part l 0)) := by
      rw [part_zero]
      rw [toList_madeCells_one] at hown
      exact hown
    have hbel : Below w.heap.size w w1 := (Below.refl _ _).grown hgrow (Nat.le_refl _) (fun k h => by cases h)
    clear hown hgrow
    go_wp2
    go_loopw [4] (fun i wr => ∃ k : Nat, k ≤ l.length ∧ i = .int .i64 k ∧ wr.ownsRow w.heap.size 5 1 (.slice (some ⟨w.heap.size, 0, none⟩) l.length l.length) l.length (bv (part l k)) ∧ Below w.heap.size w wr)
      (fun i _ => l.length - (intOf i).toNat)
    case atStart => exact ⟨0, Nat.zero_le _, rfl, hown1, hbel⟩
    case round =>
      obtain ⟨k, hk, rfl, ho, hb⟩ := hrel
      by_cases hlt : k < l.length
      · obtain ⟨b, off, rfl, hc⟩ : ∃ b off, ad = ⟨b, off, none⟩ ∧ ∀ i, i < l.length → w.cell? ⟨b, off + i, none⟩ = some (.int .u8 (l.getD i 0)) := by
          rcases hB with rfl | ⟨b, off, h1, h2⟩
          · simp at hlt
          · exact ⟨b, off, by simpa using h1, h2⟩
        have hcw := hc k hlt
        have hbb : b < w.heap.size := World.block_lt_of_cell? w _ hcw
        have hcr : wr.cell? ⟨b, off + k, none⟩ = some (.int .u8 (l.getD k 0)) := (hb.cell (p := ⟨b, off + k, none⟩) hbb).trans hcw
        obtain ⟨x, hx⟩ : ∃ x, x = l.getD k 0 := ⟨_, rfl⟩
        rw [← hx] at hcr
        have HX : Hid (x = l.getD k 0) := hx
        obtain ⟨v0, hv0⟩ : ∃ v0, wr.cell? ⟨w.heap.size, k, none⟩ = some v0 := by
          rw [ho.cellAt k (by omega)]
          exact ⟨_, List.getElem?_eq_getElem (by rw [bv_length, part_length l k (by omega)]; exact hlt)⟩
        have hfz := ho.frozenAt k
        have hst := ho.stored k (.int .u8 x)
        have HO : Hid ((wr.setCell ⟨w.heap.size, k, none⟩ (.int .u8 x)).ownsRow w.heap.size 5 1 (.slice (some ⟨w.heap.size, 0, none⟩) l.length l.length) l.length (bv (part l (k + 1))) ∧ Below w.heap.size w (wr.setCell ⟨w.heap.size, k, none⟩ (.int .u8 x))) := by
          refine ⟨?_, hb.setCell (Nat.le_refl _) _⟩
          rw [← part_step l k hlt, ← hx]; exact hst.1
        clear hx hst ho hc hcw hown1 hbel hB
        go_wp2
        go_roundw
        case rel => exact ⟨k + 1, by omega, by go_num, HO.out.1, HO.out.2⟩
        case measure => simp [intOf]; omega
      · have hkk : k = l.length := by omega
        have HO : Hid (wr.ownsRow w.heap.size 5 1 (.slice (some ⟨w.heap.size, 0, none⟩) l.length l.length) l.length (bv l) ∧ Below w.heap.size w wr) := by
          refine ⟨?_, hb⟩
          rw [hkk, part_all] at ho; exact ho
        clear hkk ho hb hown1 hbel hB
        go_wp2
        go_ret
        exact ⟨_, rfl, HO.out.1, HO.out.2⟩

theorem clone_at (a : Option Addr) (n cap : Nat) (l : List Int) (w : World) (hn : n = l.length) (hB : Bs w a l) (hl : l.length ≤ 4194304) (hnil : a = none → l = []) :
    Calls Trym.prog 8 #[.slice a n cap] w fun e w' => ∃ a' cap', e = .returned (.slice a' n cap') ∧ n ≤ cap' ∧ Bs w' a' l ∧ w'.ownsRow w.heap.size 5 1 (.slice a' n cap') n (bv l) ∧ Below w.heap.size w w' := by
  subst hn
  refine (clone_any a cap l w hB hl hnil).mono ?_
  rintro e w' ⟨v, rfl, ho, hb⟩
  obtain ⟨_, a', cap', rfl, h1, h2⟩ := owns_bytes ho
  exact ⟨a', cap', rfl, h1, h2, ho, hb⟩

/-- WHAT THE WALK IS TOLD OF A SLICE OF INTEGERS THAT CAME IN: it is nil; or it leads to a row of 'cap' cells, the numbers 'zs' (the first 'len' are its elements, the rest its spare room), each fitting its kind. -/
def IsRow (k : IntKind) (w : World) (a : Option Addr) (len cap : Nat) (zs : List Int) : Prop :=
  (a = none ∧ len = 0 ∧ cap = 0 ∧ zs = []) ∨
  ∃ x, a = some x ∧ len ≤ cap ∧ cap ≤ maxLen ∧ zs.length = cap ∧ (∀ i, i < zs.length → w.cell? (x.add i) = some (.int k (zs.getD i 0))) ∧ ∀ n ∈ zs, (Lit.int k n).wf = true

/-- WHAT CAME IN, AS BYTES. -/
theorem IsRow.bytes {w : World} {a : Option Addr} {len cap : Nat} {zs : List Int} (h : IsRow .u8 w a len cap zs) : ∃ l : List Int, len = l.length ∧ Bs w a l ∧ (a = none → l = []) ∧ len ≤ cap ∧ ∀ x ∈ l, 0 ≤ x ∧ x ≤ 255 := by
  rcases h with ⟨rfl, rfl, rfl, rfl⟩ | ⟨x, rfl, h1, h2, h3, h4, h5⟩
  · exact ⟨[], rfl, .inl rfl, fun _ => rfl, Nat.le_refl _, fun x hx => by cases hx⟩
  · refine ⟨zs.take len, by simp; omega, ?_, (fun h => by cases h), h1, fun x hx => ?_⟩
    · by_cases h0 : zs.length = 0
      · left; simp [List.eq_nil_of_length_eq_zero h0]
      · obtain ⟨b, off, spot⟩ := x
        have hspot : spot = none := by simpa [Addr.add] using World.cell?_spot (h4 0 (by omega))
        subst hspot
        refine .inr ⟨b, off, rfl, fun i hi => ?_⟩
        have hi' : i < len ∧ i < zs.length := by rw [List.length_take] at hi; omega
        have := h4 i hi'.2
        rw [Addr.add_lit] at this
        rw [this]
        simp [List.getD_eq_getElem?_getD, List.getElem?_take_of_lt hi'.1]
    · have := h5 x (List.mem_of_mem_take hx)
      simp [Lit.wf] at this
      exact this

/-- WHAT IS READ STANDS IN EVERY LATER WORLD THAT LEAVES THE OLD BLOCKS ALONE. -/
theorem Bs.later {w w' : World} {a : Option Addr} {l : List Int} {B : Nat} (h : Bs w a l) (hB : w.heap.size ≤ B) (hb : Below B w w') : Bs w' a l := by
  rcases h with rfl | ⟨b, off, rfl, hc⟩
  · exact .inl rfl
  · exact .inr ⟨b, off, rfl, fun i hi => (hb.cell (p := ⟨b, off + i, none⟩) (Nat.lt_of_lt_of_le (World.block_lt_of_cell? w _ (hc i hi)) hB)).trans (hc i hi)⟩

/-- A row that is owned and nil has no elements and no room. -/
theorem owns_none {w : World} {base n cap : Nat} {a : Option Addr} {l : List Int} (h : w.ownsRow base 5 1 (.slice a n cap) n (bv l)) : a = none → n = 0 ∧ cap = 0 := by
  rintro rfl
  rcases h.2 with ⟨h1, h2⟩ | ⟨g, cap', cur, h1, _⟩
  · simp at h1; exact h1
  · simp at h1

theorem owns_Bs {w : World} {B g n cap : Nat} {l : List Int} (h : w.ownsRow B 5 1 (.slice (some ⟨g, 0, none⟩) n cap) n (bv l)) : n = l.length ∧ n ≤ cap ∧ Bs w (some ⟨g, 0, none⟩) l := by
  obtain ⟨h1, a, c, h2, h3, h4⟩ := owns_bytes h
  simp only [Value.slice.injEq] at h2
  obtain ⟨rfl, _, rfl⟩ := h2
  exact ⟨h1, h3, h4⟩

theorem bv_append (x y : List Int) : bv x ++ bv y = bv (x ++ y) := by simp [bv]

end Go.Proofs.Qxb6606062aMods
