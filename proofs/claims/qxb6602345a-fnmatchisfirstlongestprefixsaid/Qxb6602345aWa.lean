/-
  Seat b6602345a. 'zzType', 'zzIsZero', 'zzTypes': the table is copied, row by row, into new memory.
-/
import Derived.Test.Qxb6602345aKit
namespace Go.Proofs.Qxb6602345a
open Go.RowKit

set_option maxHeartbeats 400000 in
theorem zzType_any (r : Rw) (w : World) :
    Calls Try.prog 16 #[r.val] w fun e w' => e = .returned r.val ∧ Below w.heap.size w w' := by
  go_enter Try.func16, Try.ntmps16
  go_wp2
  refine bodyPost_ret (v := r.val) (by simp [results, Try.results16, go_sem]) rfl ⟨rfl, ?_⟩
  exact ((Below.refl _ _).alloc (Nat.le_refl _) _).alloc (by simp) _

abbrev zeroVal : Value := .agg #[.string ⟨#[]⟩, .string ⟨#[]⟩, .int .i64 0, .string ⟨#[]⟩]

set_option maxHeartbeats 400000 in
theorem zzIsZero_zero (w : World) :
    Calls Try.prog 15 #[zeroVal] w fun e w' => e = .returned (.bool true) ∧ Below w.heap.size w w' := by
  go_enter Try.func15, Try.ntmps15
  go_wp2
  go_ret
  exact ⟨rfl, ((Below.refl _ _).alloc (Nat.le_refl _) _)⟩

/-- Block g is a row of 'len' elements of four cells, of which the first k hold the rows. -/
def Made (w : World) (g len k : Nat) (R : Nat → Rw) : Prop :=
  ∃ cur, w.heap[g]? = some (.cells cur 29 (0, 0)) ∧ cur.size = len * 4 ∧ ∀ i, i < k →
    cur[i * 4]? = some (.string (R i).nm) ∧ cur[i * 4 + 1]? = some (.string (R i).px) ∧ cur[i * 4 + 2]? = some (.int .i64 (R i).rl) ∧ cur[i * 4 + 3]? = some (.string (R i).cs)

theorem Made.later {w w' : World} {g len k : Nat} {R : Nat → Rw} {B : Nat} (h : Made w g len k R) (hb : Below B w w') (hg : g < B) : Made w' g len k R := by
  obtain ⟨cur, h1, h2⟩ := h
  exact ⟨cur, (hb.block g hg).trans h1, h2⟩

theorem Made.at {w : World} {g len k : Nat} {R : Nat → Rw} (h : Made w g len k R) (j : Nat) (hj : j < len * 4) : (∃ v, w.cell? ⟨g, j, none⟩ = some v) ∧ w.frozen? ⟨g, j, none⟩ = false := by
  obtain ⟨cur, h1, h2, _⟩ := h
  refine ⟨⟨cur[j], ?_⟩, frozen_of_row w g j cur 29 h1⟩
  rw [cell_of_row w g j cur 29 _ h1]
  exact Array.getElem?_eq_getElem (by omega)

theorem Made.lt {w : World} {g len k : Nat} {R : Nat → Rw} (h : Made w g len k R) : g < w.heap.size := by
  obtain ⟨cur, h1, _⟩ := h
  exact (Array.getElem?_eq_some_iff.1 h1).1

theorem Made.tab {w : World} {g len : Nat} {R : Nat → Rw} (h : Made w g len len R) : Tab w (some ⟨g, 0, none⟩) len R := by
  intro _
  refine ⟨g, 0, rfl, h.lt, fun i hi => ?_⟩
  obtain ⟨cur, h1, h2, h3⟩ := h
  obtain ⟨e0, e1, e2, e3⟩ := h3 i hi
  simp only [Nat.zero_add]
  exact ⟨by rw [cell_of_row w g _ cur 29 _ h1]; exact e0, by rw [cell_of_row w g _ cur 29 _ h1]; exact e1, by rw [cell_of_row w g _ cur 29 _ h1]; exact e2, by rw [cell_of_row w g _ cur 29 _ h1]; exact e3⟩

theorem Made.step {w : World} {g len k : Nat} {R : Nat → Rw} (h : Made w g len k R) (hk : k < len) :
    Made ((((w.setCell ⟨g, k * 4, none⟩ (.string (R k).nm)).setCell ⟨g, k * 4 + 1, none⟩ (.string (R k).px)).setCell ⟨g, k * 4 + 2, none⟩ (.int .i64 (R k).rl)).setCell ⟨g, k * 4 + 3, none⟩ (.string (R k).cs)) g len (k + 1) R := by
  obtain ⟨cur, h1, h2, h3⟩ := h
  refine ⟨_, heap_setCell_same _ g _ _ 29 _ (heap_setCell_same _ g _ _ 29 _ (heap_setCell_same _ g _ _ 29 _ (heap_setCell_same w g _ cur 29 _ h1))), by simpa using h2, fun i hi => ?_⟩
  by_cases e : i = k
  · subst e
    refine ⟨?_, ?_, ?_, ?_⟩ <;> simp [Array.getElem?_setIfInBounds] <;> omega
  · obtain ⟨e0, e1, e2, e3⟩ := h3 i (by omega)
    refine ⟨?_, ?_, ?_, ?_⟩ <;> simp only [Array.getElem?_setIfInBounds] <;> (repeat rw [if_neg (by omega)]) <;> assumption

theorem info29 : (Try.prog.info? 29).map (fun i => (i.zero, i.size, i.bytes)) = some (some zeroVal, 4, 56) := by kernel_rfl

def TypesB (w : World) (len : Nat) (R : Nat → Rw) (e : Ending) (w' : World) : Prop := ∃ a', e = .returned (.slice a' len len) ∧ Tab w' a' len R ∧ Below w.heap.size w w'

set_option maxHeartbeats 1000000 in
theorem zzTypes_any (a : Option Addr) (len cap : Nat) (R : Nat → Rw) (w : World) (hl : len ≤ 65536) (hn : a = none → len = 0) (ht : Tab w a len R) :
    Calls Try.prog 13 #[.slice a len cap] w fun e w' => TypesB w len R e w' := by
  cases a with
  | none =>
    obtain rfl := hn rfl
    have hq := fun w => Lib.run_eql_slice_nil (P := Try.prog) w 22 27 none 0 cap 0 0 Try.underlying22
    go_enter Try.func13, Try.ntmps13
    go_wp2
    go_ret
    exact ⟨_, rfl, fun h => absurd h (by omega), Below.refl _ _⟩
  | some a =>
    clear hn
    have hq := fun w => Lib.run_eql_slice_nil (P := Try.prog) w 22 27 (some a) len cap 0 0 Try.underlying22
    obtain ⟨C, hC, hmk⟩ : ∃ C : Array Value, C.size = len * 4 ∧ ∀ w, (Instr.makeSlice 32 (.int .i64 (len : Int)) (.int .i64 (len : Int))).run Try.prog w = .ok (.slice (some ⟨w.heap.size, 0, none⟩) len len) (w.alloc (.cells C 29)) := by
      obtain ⟨i0, hi, hz0, hz1, hz2⟩ := info_parts info29
      refine ⟨madeCells zeroVal.cells (len * 4), size_madeCells _ _, fun w => ?_⟩
      have := run_make (P := Try.prog) w 32 29 i0 zeroVal Try.underlying32 hi hz0 .i64 .i64 len len (by omega) (by omega) (by rw [hz2]; omega) (by omega)
      rw [hz1] at this
      simpa using this
    go_enter Try.func13, Try.ntmps13
    go_wp2
    go_loopw [4] (fun i wr => ∃ k : Nat, k ≤ len ∧ i = .int .i64 k ∧ Made wr w.heap.size len k R ∧ Below w.heap.size w wr) (fun i _ => len - (intOf i).toNat)
    case atStart => exact ⟨0, Nat.zero_le _, rfl, ⟨C, heap_alloc_new _ _, hC, fun i hi => absurd hi (by omega)⟩, (Below.refl _ _).alloc (Nat.le_refl _) _⟩
    case round =>
      obtain ⟨k, hk, rfl, hM, hB⟩ := hrel
      clear hmk hq
      by_cases hlt : k < len
      · obtain ⟨b, off, ha, hb, hc⟩ := ht.later hB (Nat.le_refl _) (by omega)
        injection ha with ha
        subst ha
        obtain ⟨c0, c1, c2, c3⟩ := hc k hlt
        clear hc ht
        go_wp2_with (go_at_call 16; refine (zzType_any (R k) _).mono ?_; rintro e w1 ⟨rfl, hb1⟩; have hM1 := hM.later hb1 hM.lt; obtain ⟨⟨v0, p0⟩, f0⟩ := hM1.at (k * 4) (by omega); obtain ⟨⟨v1, p1⟩, f1⟩ := hM1.at (k * 4 + 1) (by omega); obtain ⟨⟨v2, p2⟩, f2⟩ := hM1.at (k * 4 + 2) (by omega); obtain ⟨⟨v3, p3⟩, f3⟩ := hM1.at (k * 4 + 3) (by omega))
        have hB1 : Below w.heap.size w w1 := hB.trans (hb1.mono hB.size)
        go_roundw
        case rel => exact ⟨k + 1, by omega, by go_num, hM1.step hlt, (((hB1.setCell (Nat.le_refl _) _).setCell (Nat.le_refl _) _).setCell (Nat.le_refl _) _).setCell (Nat.le_refl _) _⟩
        case measure => simp [intOf]; omega
      · go_wp2
        go_ret
        have e : k = len := by omega
        subst e
        exact ⟨_, rfl, hM.tab, hB⟩

end Go.Proofs.Qxb6602345a
