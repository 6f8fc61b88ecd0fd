/-
  Seat b6601297a. What the walks are told of the labels, and of a map that is looked into at one key.
-/
import Derived.Test.Qxb6601297aRows
import Derived.WalkKit
import Derived.WalkSpells
import Derived.WalkLawsBesides
import Derived.Maps.OwnSet
import Derived.Maps.StringElems
namespace Go.Proofs.Qxb6601297a
open Go.RowKit Go.WideMaps Go.Maps

/-- One label. -/
structure Lb where
  ky : ByteArray
  vl : ByteArray

/-- What a walk is told of a slice of labels: each of the first 'len' elements lies in two cells. -/
def Tab (w : World) (a : Option Addr) (len : Nat) (L : Nat → Lb) : Prop :=
  0 < len → ∃ b off, a = some ⟨b, off, none⟩ ∧ b < w.heap.size ∧ ∀ i, i < len →
    w.cell? ⟨b, off + i * 2, none⟩ = some (.string (L i).ky) ∧ w.cell? ⟨b, off + i * 2 + 1, none⟩ = some (.string (L i).vl) ∧ (L i).ky.size ≤ maxLen ∧ (L i).vl.size ≤ maxLen

theorem Tab.later {w w' : World} {a : Option Addr} {len : Nat} {L : Nat → Lb} {B : Nat} (h : Tab w a len L) (hb : Below B w w') (hB : w.heap.size ≤ B) : Tab w' a len L := by
  intro hl
  obtain ⟨b, off, ha, hlt, hc⟩ := h hl
  refine ⟨b, off, ha, by have := hb.size; omega, fun i hi => ?_⟩
  obtain ⟨h0, h1, h2⟩ := hc i hi
  exact ⟨(hb.cell (by show b < B; omega)).trans h0, (hb.cell (by show b < B; omega)).trans h1, h2⟩

theorem Tab.drewN {w : World} {a : Option Addr} {len : Nat} {L : Nat → Lb} (h : Tab w a len L) (q : Nat) : Tab (w.drewN q) a len L := h

theorem toList_inj {a b : ByteArray} (h : a.toList = b.toList) : a = b := by
  rw [ByteArray.toList_eq, ByteArray.toList_eq] at h
  exact ByteArray.ext (Array.toList_inj.mp h)

theorem str_yes {a b : ByteArray} (h : a = b) : (a.toList == b.toList) = true := by rw [h]; simp
theorem str_no {a b : ByteArray} (h : a ≠ b) : (a.toList == b.toList) = false := by simpa using fun e => h (toList_inj e)

/-- The call returns one of the two bools. -/
def SomeBool (e : Ending) : Prop := ∃ x, e = .returned (.bool x)

/-- In every world that has kept the first B blocks of w, the map mv answers v and 'has' at the key. -/
def Looks (w : World) (B : Nat) (mv : Value) (key v : ByteArray) (has : Bool) : Prop :=
  ∀ w', Below B w w' → (Instr.lookup 28 mv (.string key) true).run Try.prog w' = .ok (.tuple #[.string v, .bool has]) w'

theorem Looks.later {w w1 : World} {B B' : Nat} {mv : Value} {key v : ByteArray} {has : Bool} (h : Looks w B mv key v has) (hb : Below B w w1) (hB : B ≤ B') : Looks w1 B' mv key v has :=
  fun w' hw => h w' (hb.trans (hw.mono hB))

theorem law9 : Keyed Try.prog 9 := string_keyed Try.underlying9
theorem zero9 (w : World) : (zeroValue 9).run Try.prog w = .ok (.string ⟨#[]⟩) w := by kernel_rfl

theorem looks_nil (w : World) (B : Nat) (key : ByteArray) (hk : key.size ≤ maxLen) : Looks w B (.map none) key ⟨#[]⟩ false :=
  fun w' _ => Maps.look_nil (P := Try.prog) (t := 28) (e := 9) true law9 Try.underlying28 (zero9 w') (keyOf_string_mk Try.underlying9 hk)

theorem looks_own {w : World} {b n : Nat} {D : DataW Unit} (h : w.ownsMap Try.prog 9 (plainElem Try.prog 9) b n D) (key : ByteArray) (hk : key.size ≤ maxLen) : ∃ v has, Looks w (b + 1) (.map (some b)) key v has := by
  have hz : plainElem (H := Unit) Try.prog 9 (.string ⟨#[]⟩) = some (.lit (.string []), []) := plainElem_string Try.underlying9 (by decide)
  obtain ⟨v, ps, _, hv⟩ := h.look_ok law9 Try.underlying28 (zero9 w) hz (keyOf_string_mk Try.underlying9 hk)
  obtain ⟨s, rfl, hs, _⟩ := plainElem_string_inv Try.underlying9 hv
  refine ⟨s, Maps.has D (.string key.data.toList), fun w' hb => ?_⟩
  obtain ⟨es, clock, hbk, F, hsz, hD⟩ := h
  have h' : w'.ownsMap Try.prog 9 (plainElem Try.prog 9) b n D := ⟨es, clock, (hb.block b (Nat.lt_succ_self b)).trans hbk, F, hsz, hD⟩
  obtain ⟨v', ps', hrun, hv'⟩ := h'.look_ok law9 Try.underlying28 (zero9 w') hz (keyOf_string_mk Try.underlying9 hk)
  obtain ⟨s', rfl, hs', _⟩ := plainElem_string_inv Try.underlying9 hv'
  have e : s' = s := by
    have e1 := congrArg Prod.fst hs
    have e2 := congrArg Prod.fst hs'
    have e3 : (DataW.lit (H := Unit) (.string s'.data.toList)) = .lit (.string s.data.toList) := e2.symm.trans e1
    injection e3 with e3
    injection e3 with e3
    exact ByteArray.ext (Array.toList_inj.mp e3)
  rw [← e]
  exact hrun

end Go.Proofs.Qxb6601297a
