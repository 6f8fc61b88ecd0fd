/-
  Seat b6602345a. '(Types).Named': the first row of that name, else the zero row.
-/
import Derived.Test.Qxb6602345aWa
namespace Go.Proofs.Qxb6602345a
open Go.RowKit

/-- Block g is one struct of four cells, of the call's own. -/
def Box (w : World) (g : Nat) : Prop := ∃ cur, w.heap[g]? = some (.cells cur 29 (0, 0)) ∧ cur.size = 4

theorem Box.lt {w : World} {g : Nat} (h : Box w g) : g < w.heap.size := by
  obtain ⟨cur, h1, _⟩ := h
  exact (Array.getElem?_eq_some_iff.1 h1).1

theorem Box.at {w : World} {g : Nat} (h : Box w g) (j : Nat) (hj : j < 4) : (∃ v, w.cell? ⟨g, j, none⟩ = some v) ∧ w.frozen? ⟨g, j, none⟩ = false := by
  obtain ⟨cur, h1, h2⟩ := h
  refine ⟨⟨cur[j], ?_⟩, frozen_of_row w g j cur 29 h1⟩
  rw [cell_of_row w g j cur 29 _ h1]
  exact Array.getElem?_eq_getElem (by omega)

theorem Box.later {w w' : World} {g B : Nat} (h : Box w g) (hb : Below B w w') (hg : g < B) : Box w' g := by
  obtain ⟨cur, h1, h2⟩ := h
  exact ⟨cur, (hb.block g hg).trans h1, h2⟩

def NamedB (w : World) (len : Nat) (R : Nat → Rw) (s : ByteArray) (e : Ending) (w' : World) : Prop :=
  Below w.heap.size w w' ∧
  ((∃ i, i < len ∧ (R i).nm = s ∧ (∀ j, j < i → (R j).nm ≠ s) ∧ e = .returned (.tuple #[(R i).val, .bool true])) ∨
   ((∀ j, j < len → (R j).nm ≠ s) ∧ e = .returned (.tuple #[zeroVal, .bool false])))

set_option maxHeartbeats 1000000 in
theorem named_any (a : Option Addr) (len cap : Nat) (R : Nat → Rw) (s : ByteArray) (w : World) (hl : len ≤ 65536) (ht : Tab w a len R) :
    Calls Try.prog 20 #[.slice a len cap, .string s] w fun e w' => NamedB w len R s e w' := by
  go_enter Try.func20, Try.ntmps20
  go_wp2
  go_loopw [10] (fun i wr => ∃ k : Nat, k ≤ len ∧ i = .int .i64 k ∧ Hid (∀ j, j < k → (R j).nm ≠ s) ∧ Box wr w.heap.size ∧ Below w.heap.size w wr) (fun i _ => len - (intOf i).toNat)
  case atStart => exact ⟨0, Nat.zero_le _, rfl, fun j hj => absurd hj (by omega), ⟨zeroVal.cells, heap_alloc_new _ _, rfl⟩, (Below.refl _ _).alloc (Nat.le_refl _) _⟩
  case round =>
    obtain ⟨k, hk, rfl, hN, hX, hB⟩ := hrel
    have hz : w.heap.size < wr.heap.size := hX.lt
    obtain ⟨⟨z0, p0⟩, f0⟩ := hX.at 0 (by omega)
    obtain ⟨⟨z1, p1⟩, f1⟩ := hX.at 1 (by omega)
    obtain ⟨⟨z2, p2⟩, f2⟩ := hX.at 2 (by omega)
    obtain ⟨⟨z3, p3⟩, f3⟩ := hX.at 3 (by omega)
    by_cases hlt : k < len
    · obtain ⟨b, off, rfl, hb, hc⟩ := ht.later hB (Nat.le_refl _) (by omega)
      obtain ⟨c0, c1, c2, c3⟩ := hc k hlt
      clear hc
      by_cases he : (R k).nm = s
      · have hd := str_yes he
        have HE : Hid ((R k).nm = s) := he
        clear he
        go_wp2
        refine bodyPost_ret (v := .tuple #[(R k).val, .bool true]) (by simp [results, Try.results20, go_sem, p0, p1, p2, p3, hz]) rfl ⟨?_, .inl ⟨k, hlt, HE, hN, rfl⟩⟩
        exact ((((hB.setCell (Nat.le_refl _) _).setCell (Nat.le_refl _) _).setCell (Nat.le_refl _) _).setCell (Nat.le_refl _) _).alloc (by simp; omega) _
      · have hd := str_no he
        have HE : Hid ((R k).nm ≠ s) := he
        clear he
        go_wp2
        go_roundw
        case rel => exact ⟨k + 1, by omega, by go_num, fun j hj => if e : j = k then e ▸ HE else hN j (by omega), hX.later (((Below.refl _ wr).alloc (Nat.le_refl _) _)) hz, hB.alloc (by omega) _⟩
        case measure => simp [intOf]; omega
    · go_wp2
      refine bodyPost_ret (v := .tuple #[zeroVal, .bool false]) (by simp [results, Try.results20, go_sem, p0, p1, p2, p3]) rfl ⟨?_, .inr ⟨fun j hj => hN j (by omega), rfl⟩⟩
      exact ((((hB).setCell (Nat.le_refl _) _).setCell (Nat.le_refl _) _).setCell (Nat.le_refl _) _).setCell (Nat.le_refl _) _

end Go.Proofs.Qxb6602345a
