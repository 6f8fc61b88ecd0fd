/-
  Seat b6602345a. A slice of rows that came in, opened: what the walks are told of it.
-/
import Derived.Test.Qxb6602345aKit
import Derived.ProofKit
import Derived.OpenShut
import Derived.Deep.Slices
namespace Go.Proofs.Qxb6602345a
open Go.ChangeShapes Go.WideShapes Go.ChangeAt Go.RowKit Go.Deep

theorem c27 : Try.prog.cellsOf 27 = 4 := by kernel_rfl
theorem c9 : Try.prog.cellsOf 9 = 1 := by kernel_rfl
theorem c3 : Try.prog.cellsOf 3 = 1 := by kernel_rfl

theorem open_tab {H : Type} {enc : TypeId × Value → H} {w : World} {base : Nat} {spare : Nat → Bool} {held : Bool} {a : Option Addr} {len cap : Nat} {d : DataW H} {p : List MemPlace}
    (h : DataW.Trod enc Try.prog w base spare held 22 (.slice a len cap) d p) :
    len ≤ maxLen ∧ (a = none → len = 0) ∧ ∃ R : Nat → Rw, Tab w a len R ∧ ∀ i, i < len → (R i).nm.size ≤ maxLen ∧ (R i).px.size ≤ maxLen ∧ (R i).cs.size ≤ maxLen ∧ (Lit.int .i64 (R i).rl).wf = true := by
  obtain ⟨fuel, hf⟩ := h
  rcases open_slice Try.underlying22 hf with ⟨hcs, _⟩ | ⟨a', len', cap', m, n, D, Pl, hcs, _, hl, hm, hmm, _, hx⟩
  · simp [Value.cells] at hcs
    obtain ⟨rfl, rfl, rfl⟩ := hcs
    exact ⟨by decide, fun _ => rfl, fun _ => ⟨.empty, .empty, 0, .empty⟩, fun h => absurd h (by omega), fun i hi => absurd hi (by omega)⟩
  · simp [Value.cells] at hcs
    obtain ⟨rfl, rfl, rfl⟩ := hcs
    have hlm : len ≤ m := by rw [hmm]; split <;> omega
    refine ⟨by omega, by simp, ?_⟩
    have each : ∀ i, i < len → ∃ r : Rw, (w.cell? (a'.add (i * 4)) = some (.string r.nm) ∧ w.cell? (a'.add (i * 4 + 1)) = some (.string r.px) ∧ w.cell? (a'.add (i * 4 + 2)) = some (.int .i64 r.rl) ∧ w.cell? (a'.add (i * 4 + 3)) = some (.string r.cs)) ∧
        r.nm.size ≤ maxLen ∧ r.px.size ≤ maxLen ∧ r.cs.size ≤ maxLen ∧ (Lit.int .i64 r.rl).wf = true := by
      intro i hi
      obtain ⟨cs', h1, h2⟩ := hx i (by omega)
      rw [c27] at h1
      obtain ⟨_, hlen, hcell⟩ := World.cells?_some h1
      obtain ⟨xs, k, hk, hxy, _, hxl, hfl⟩ := DataW.trod_struct Try.underlying27 h2
      match xs, hxl, cs', hlen with
      | [y0, y1, y2, y3], _, [v0, v1, v2, v3], _ =>
        have g0 := hfl 0 _ rfl
        have g1 := hfl 1 _ rfl
        have g2 := hfl 2 _ rfl
        have g3 := hfl 3 _ rfl
        simp [c9, c3] at g0 g1 g2 g3
        obtain ⟨s0, e0, _, z0⟩ := DataW.trod_string Try.underlying9 g0
        obtain ⟨s1, e1, _, z1⟩ := DataW.trod_string Try.underlying9 g1
        obtain ⟨s2, e2, _, z2⟩ := DataW.trod_int Try.underlying3 g2
        obtain ⟨s3, e3, _, z3⟩ := DataW.trod_string Try.underlying9 g3
        simp at e0 e1 e2 e3
        subst e0 e1 e2 e3
        have q0 := hcell 0 (by omega)
        have q1 := hcell 1 (by omega)
        have q2 := hcell 2 (by omega)
        have q3 := hcell 3 (by omega)
        rw [add_add] at q0 q1 q2 q3
        exact ⟨⟨s0, s1, s2, s3⟩, ⟨by simpa using q0, by simpa using q1, by simpa using q2, by simpa using q3⟩, z0, z1, z3, z2⟩
    have : Inhabited Rw := ⟨⟨.empty, .empty, 0, .empty⟩⟩
    obtain ⟨R, hR⟩ := choose_lt each
    refine ⟨R, fun hp => ?_, fun i hi => (hR i hi).2⟩
    obtain ⟨b, off, spot⟩ := a'
    have q := (hR 0 hp).1.1
    have hspot : spot = none := by simpa [Addr.add] using World.cell?_spot q
    subst hspot
    refine ⟨b, off, rfl, by have := block_lt_of_cell q; simpa [add_plain] using this, fun i hi => ?_⟩
    obtain ⟨⟨q0, q1, q2, q3⟩, _⟩ := hR i hi
    rw [add_plain] at q0 q1 q2 q3
    exact ⟨q0, by simpa [Nat.add_assoc] using q1, by simpa [Nat.add_assoc] using q2, by simpa [Nat.add_assoc] using q3⟩

end Go.Proofs.Qxb6602345a
