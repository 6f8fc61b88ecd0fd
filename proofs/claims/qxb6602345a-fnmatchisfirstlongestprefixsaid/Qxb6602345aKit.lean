/-
  Seat b6602345a. What the walks are told of the rows, and small facts on worlds.
-/
import Derived.Test.Qxb6602345aRows
import Derived.WalkKit
import Derived.WalkSpells
import Derived.WalkLawsBesides
namespace Go.Proofs.Qxb6602345a
open Go.RowKit

/-- One row of the table. -/
structure Rw where
  nm : ByteArray
  px : ByteArray
  rl : Int
  cs : ByteArray

abbrev Rw.val (r : Rw) : Value := .agg #[.string r.nm, .string r.px, .int .i64 r.rl, .string r.cs]

/-- What a walk is told of a slice of rows: each of the first 'len' elements lies in four cells. -/
def Tab (w : World) (a : Option Addr) (len : Nat) (R : Nat → Rw) : Prop :=
  0 < len → ∃ b off, a = some ⟨b, off, none⟩ ∧ b < w.heap.size ∧ ∀ i, i < len →
    w.cell? ⟨b, off + i * 4, none⟩ = some (.string (R i).nm) ∧ w.cell? ⟨b, off + i * 4 + 1, none⟩ = some (.string (R i).px) ∧
    w.cell? ⟨b, off + i * 4 + 2, none⟩ = some (.int .i64 (R i).rl) ∧ w.cell? ⟨b, off + i * 4 + 3, none⟩ = some (.string (R i).cs)

theorem Tab.later {w w' : World} {a : Option Addr} {len : Nat} {R : Nat → Rw} {B : Nat} (h : Tab w a len R) (hb : Below B w w') (hB : w.heap.size ≤ B) : Tab w' a len R := by
  intro hl
  obtain ⟨b, off, ha, hlt, hc⟩ := h hl
  refine ⟨b, off, ha, by have := hb.size; omega, fun i hi => ?_⟩
  obtain ⟨h0, h1, h2, h3⟩ := hc i hi
  exact ⟨(hb.cell (by show b < B; omega)).trans h0, (hb.cell (by show b < B; omega)).trans h1, (hb.cell (by show b < B; omega)).trans h2, (hb.cell (by show b < B; omega)).trans h3⟩

theorem Tab.drewN {w : World} {a : Option Addr} {len : Nat} {R : Nat → Rw} (h : Tab w a len R) (q : Nat) : Tab (w.drewN q) a len R := h

theorem toList_inj {a b : ByteArray} (h : a.toList = b.toList) : a = b := by
  rw [ByteArray.toList_eq, ByteArray.toList_eq] at h
  exact ByteArray.ext (Array.toList_inj.mp h)

theorem str_yes {a b : ByteArray} (h : a = b) : (a.toList == b.toList) = true := by rw [h]; simp
theorem str_no {a b : ByteArray} (h : a ≠ b) : (a.toList == b.toList) = false := by simpa using fun e => h (toList_inj e)

/-- The call returns one of the two bools. -/
def SomeBool (e : Ending) : Prop := ∃ x, e = .returned (.bool x)

end Go.Proofs.Qxb6602345a
