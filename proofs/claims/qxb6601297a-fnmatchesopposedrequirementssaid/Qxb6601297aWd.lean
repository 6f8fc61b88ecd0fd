/-
  Seat b6601297a. 'ZZSelectorMatchesB1' and 'singleKIb1' at one requirement.
-/
import Derived.Test.Qxb6601297aWc
import Derived.RegionTactic
namespace Go.Proofs.Qxb6601297a
open Go.RowKit

/-- Block g is a selector of one requirement; when k = 1 it has been filled. -/
def Sel (w : World) (g : Nat) (k : Nat) (key val : ByteArray) (op : Int) : Prop :=
  ∃ cur, w.heap[g]? = some (.cells cur 45 (0, 0)) ∧ cur.size = 3 ∧ (k = 1 → cur[0]? = some (.string key) ∧ cur[1]? = some (.string val) ∧ cur[2]? = some (.int .i64 op))

theorem Sel.at {w : World} {g k : Nat} {key val : ByteArray} {op : Int} (h : Sel w g k key val op) (j : Nat) (hj : j < 3) : (∃ v, w.cell? ⟨g, j, none⟩ = some v) ∧ w.frozen? ⟨g, j, none⟩ = false := by
  obtain ⟨cur, h1, h2, _⟩ := h
  refine ⟨⟨cur[j], ?_⟩, frozen_of_row w g j cur 45 h1⟩
  rw [cell_of_row w g j cur 45 _ h1]
  exact Array.getElem?_eq_getElem (by omega)

theorem Sel.step {w : World} {g k : Nat} {key val : ByteArray} {op : Int} (h : Sel w g k key val op) :
    Sel (((w.setCell ⟨g, 0, none⟩ (.string key)).setCell ⟨g, 1, none⟩ (.string val)).setCell ⟨g, 2, none⟩ (.int .i64 op)) g 1 key val op := by
  obtain ⟨cur, h1, h2, _⟩ := h
  refine ⟨_, heap_setCell_same _ g _ _ 45 _ (heap_setCell_same _ g _ _ 45 _ (heap_setCell_same w g _ cur 45 _ h1)), by simpa using h2, fun _ => ?_⟩
  refine ⟨?_, ?_, ?_⟩ <;> simp [h2]

theorem Sel.drew {w : World} {g k : Nat} {key val : ByteArray} {op : Int} (h : Sel w g k key val op) : Sel w.drew g k key val op := h

theorem Sel.cells {w : World} {g : Nat} {key val : ByteArray} {op : Int} (h : Sel w g 1 key val op) :
    w.cell? ⟨g, 0, none⟩ = some (.string key) ∧ w.cell? ⟨g, 1, none⟩ = some (.string val) ∧ w.cell? ⟨g, 2, none⟩ = some (.int .i64 op) := by
  obtain ⟨cur, h1, h2, h3⟩ := h
  obtain ⟨q0, q1, q2⟩ := h3 rfl
  exact ⟨by rw [cell_of_row w g _ _ 45 _ h1]; exact q0, by rw [cell_of_row w g _ _ 45 _ h1]; exact q1, by rw [cell_of_row w g _ _ 45 _ h1]; exact q2⟩

theorem below3 (w : World) (B g : Nat) (v0 v1 v2 : Value) (h : B ≤ g) : Below B w (((w.setCell ⟨g, 0, none⟩ v0).setCell ⟨g, 1, none⟩ v1).setCell ⟨g, 2, none⟩ v2) :=
  Below.setCell (p := ⟨g, 2, none⟩) (Below.setCell (p := ⟨g, 1, none⟩) (Below.setCell (p := ⟨g, 0, none⟩) (Below.refl _ _) h _) h _) h _

theorem make1 (w : World) : (Instr.makeSlice 42 (.int .i64 1) (.int .i64 1)).run Try.prog w = .ok (.slice (some ⟨w.heap.size, 0, none⟩) 1 1) (w.alloc (.cells #[.string ⟨#[]⟩, .string ⟨#[]⟩, .int .i64 0] 45)) := by kernel_rfl

set_option maxHeartbeats 1000000 in
theorem selector_one (g1 g2 g3 : Nat) (key val v : ByteArray) (has eq : Bool) (op : Int) (mv : Value) (w : World) (hop : op = 0 ∨ op = 1 ∨ op = 2 ∨ op = 3) (heq : (v.toList == val.toList) = eq)
    (c1 : w.cell? ⟨g1, 0, none⟩ = some (.string key)) (c2 : w.cell? ⟨g2, 0, none⟩ = some (.string val)) (c3 : w.cell? ⟨g3, 0, none⟩ = some (.int .i64 op)) (hL : Looks w w.heap.size mv key v has) :
    Calls Try.prog 13 #[.slice (some ⟨g1, 0, none⟩) 1 1, .slice (some ⟨g2, 0, none⟩) 1 1, .slice (some ⟨g3, 0, none⟩) 1 1, mv] w fun e w' => e = .returned (.bool (sat op has eq)) ∧ Below w.heap.size w w' := by
  have b1 : g1 < w.heap.size := block_lt_of_cell c1
  have b2 : g2 < w.heap.size := block_lt_of_cell c2
  have b3 : g3 < w.heap.size := block_lt_of_cell c3
  have HO : Hid (op = 0 ∨ op = 1 ∨ op = 2 ∨ op = 3) := hop
  have HQ : Hid ((v.toList == val.toList) = eq) := heq
  clear hop heq
  have hmk := make1
  go_enter Try.func13, Try.ntmps13
  go_wp2
  go_loopw [10] (fun i wr => ∃ k : Nat, k ≤ 1 ∧ i = .int .i64 k ∧ Sel wr w.heap.size k key val op ∧ Below w.heap.size w wr) (fun i _ => 1 - (intOf i).toNat)
  case atStart => exact ⟨0, Nat.zero_le _, rfl, ⟨_, heap_alloc_new _ _, rfl, fun h => absurd h (by decide)⟩, (Below.refl _ _).alloc (Nat.le_refl _) _⟩
  case round =>
    obtain ⟨k, hk, rfl, hS, hB⟩ := hrel
    clear hmk
    have d1 := (hB.cell (p := ⟨g1, 0, none⟩) b1).trans c1
    have d2 := (hB.cell (p := ⟨g2, 0, none⟩) b2).trans c2
    have d3 := (hB.cell (p := ⟨g3, 0, none⟩) b3).trans c3
    rcases (show k = 0 ∨ k = 1 by omega) with rfl | rfl
    · obtain ⟨⟨y0, p0⟩, f0⟩ := hS.at 0 (by omega)
      obtain ⟨⟨y1, p1⟩, f1⟩ := hS.at 1 (by omega)
      obtain ⟨⟨y2, p2⟩, f2⟩ := hS.at 2 (by omega)
      go_wp2
      go_region
      all_goals
        go_wp2
        go_roundw
        case rel => exact ⟨1, Nat.le_refl _, rfl, hS.step.drew, (hB.trans (below3 wr _ _ _ _ _ (Nat.le_refl _))).drew⟩
        case measure => decide
    · obtain ⟨e0, e1, e2⟩ := hS.cells
      go_wp2_with fail
      refine (matches_one w.heap.size key val v has eq op mv _ HO.out HQ.out e0 e1 e2 (hL.later hB hB.size)).mono ?_
      rintro e w1 ⟨rfl, hb1⟩
      go_wp2
      go_ret
      exact ⟨rfl, hB.trans (hb1.mono hB.size)⟩

set_option maxHeartbeats 1000000 in
theorem single_any (key val v : ByteArray) (has eq : Bool) (op : Int) (mv : Value) (w : World) (hop : op = 0 ∨ op = 1 ∨ op = 2 ∨ op = 3) (heq : (v.toList == val.toList) = eq) (hL : Looks w w.heap.size mv key v has) :
    Calls Try.prog 12 #[.string key, .string val, .int .i64 op, mv] w fun e w' => e = .returned (.bool (sat op has eq)) ∧ Below w.heap.size w w' := by
  have HO : Hid (op = 0 ∨ op = 1 ∨ op = 2 ∨ op = 3) := hop
  have HQ : Hid ((v.toList == val.toList) = eq) := heq
  clear hop heq
  go_enter Try.func12, Try.ntmps12
  have hB3 : Below w.heap.size w (((w.alloc (.cells #[.string key] 9)).alloc (.cells #[.string val] 9)).alloc (.cells #[.int .i64 op] 3)) :=
    (((Below.refl _ _).alloc (Nat.le_refl _) _).alloc (by simp) _).alloc (by simp; omega) _
  go_wp2_with fail
  refine (selector_one w.heap.size (w.heap.size + 1) (w.heap.size + 1 + 1) key val v has eq op mv _ HO.out HQ.out (by simp [go_sem]) (by simp [go_sem]) (by simp [go_sem]) (hL.later hB3 hB3.size)).mono ?_
  rintro e w1 ⟨rfl, hb1⟩
  go_wp2
  go_ret
  exact ⟨rfl, hB3.trans (hb1.mono hB3.size)⟩

end Go.Proofs.Qxb6601297a
