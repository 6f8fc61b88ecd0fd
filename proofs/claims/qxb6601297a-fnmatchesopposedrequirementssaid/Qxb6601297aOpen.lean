/-
  Seat b6601297a. A slice of labels that came in, opened: what the walks are told of it.
-/
import Derived.Test.Qxb6601297aKit
import Derived.ProofKit
import Derived.OpenShut
import Derived.Deep.Slices
namespace Go.Proofs.Qxb6601297a
open Go.ChangeShapes Go.WideShapes Go.ChangeAt Go.RowKit Go.Deep

theorem c37 : Try.prog.cellsOf 37 = 2 := by kernel_rfl
theorem c9 : Try.prog.cellsOf 9 = 1 := by kernel_rfl

theorem open_tab {H : Type} {enc : TypeId × Value → H} {w : World} {base : Nat} {spare : Nat → Bool} {held : Bool} {a : Option Addr} {len cap : Nat} {d : DataW H} {p : List MemPlace}
    (h : DataW.Trod enc Try.prog w base spare held 23 (.slice a len cap) d p) :
    len ≤ maxLen ∧ (a = none → len = 0) ∧ ∃ L : Nat → Lb, Tab w a len L := by
  obtain ⟨fuel, hf⟩ := h
  rcases open_slice Try.underlying23 hf with ⟨hcs, _⟩ | ⟨a', len', cap', m, n, D, Pl, hcs, _, hl, hm, hmm, _, hx⟩
  · simp [Value.cells] at hcs
    obtain ⟨rfl, rfl, rfl⟩ := hcs
    exact ⟨by decide, fun _ => rfl, fun _ => ⟨.empty, .empty⟩, fun h => absurd h (by omega)⟩
  · simp [Value.cells] at hcs
    obtain ⟨rfl, rfl, rfl⟩ := hcs
    have hlm : len ≤ m := by rw [hmm]; split <;> omega
    refine ⟨by omega, by simp, ?_⟩
    have each : ∀ i, i < len → ∃ r : Lb, (w.cell? (a'.add (i * 2)) = some (.string r.ky) ∧ w.cell? (a'.add (i * 2 + 1)) = some (.string r.vl)) ∧ r.ky.size ≤ maxLen ∧ r.vl.size ≤ maxLen := by
      intro i hi
      obtain ⟨cs', h1, h2⟩ := hx i (by omega)
      rw [c37] at h1
      obtain ⟨_, hlen, hcell⟩ := World.cells?_some h1
      obtain ⟨xs, k, hk, hxy, _, hxl, hfl⟩ := DataW.trod_struct Try.underlying37 h2
      match xs, hxl, cs', hlen with
      | [y0, y1], _, [v0, v1], _ =>
        have g0 := hfl 0 _ rfl
        have g1 := hfl 1 _ rfl
        simp [c9] at g0 g1
        obtain ⟨s0, e0, _, z0⟩ := DataW.trod_string Try.underlying9 g0
        obtain ⟨s1, e1, _, z1⟩ := DataW.trod_string Try.underlying9 g1
        simp at e0 e1
        subst e0 e1
        have q0 := hcell 0 (by omega)
        have q1 := hcell 1 (by omega)
        rw [add_add] at q0 q1
        exact ⟨⟨s0, s1⟩, ⟨by simpa using q0, by simpa using q1⟩, z0, z1⟩
    have : Inhabited Lb := ⟨⟨.empty, .empty⟩⟩
    obtain ⟨L, hL⟩ := choose_lt each
    refine ⟨L, fun hp => ?_⟩
    obtain ⟨b, off, spot⟩ := a'
    have q := (hL 0 hp).1.1
    have hspot : spot = none := by simpa [Addr.add] using World.cell?_spot q
    subst hspot
    refine ⟨b, off, rfl, by have := block_lt_of_cell q; simpa [add_plain] using this, fun i hi => ?_⟩
    obtain ⟨⟨q0, q1⟩, z0, z1⟩ := hL i hi
    rw [add_plain] at q0 q1
    exact ⟨q0, by simpa [Nat.add_assoc] using q1, z0, z1⟩

end Go.Proofs.Qxb6601297a
