/-
  Seat b6602464a. Digits in groups, said plainly: no Go in sight.
-/
import Derived.Test.Qxb6602464aKit
namespace Go.Proofs.Qxb6602464a

/-- Byte i of a string. -/
def bt (s : ByteArray) (i : Nat) : Int := ((s.data.toList.getD i 0).toNat : Int)

theorem bt_eq (s : ByteArray) (i : Nat) (h : i < s.size) : ((s[i]'h).toNat : Int) = bt s i := by
  unfold bt
  rw [List.getD_eq_getElem?_getD, List.getElem?_eq_getElem (by simpa using h)]
  rfl

theorem bt_bd (s : ByteArray) (i : Nat) : 0 ≤ bt s i ∧ bt s i ≤ 255 := by
  unfold bt
  have := (s.data.toList.getD i 0).toNat_lt
  omega

/-- A digit of the base. -/
def digOk (base c : Int) : Prop := 0 ≤ hx c ∧ hx c < base

/-- What digitsOf asks of byte i. -/
def good (f : Nat → Int) (n : Nat) (base : Int) (i : Nat) : Prop := (f i = 95 → i ≠ 0 ∧ i + 1 ≠ n ∧ f (i + 1) ≠ 95) ∧ (f i ≠ 95 → digOk base (f i))

/-- What the grammar of groups asks of byte i. -/
def fits (f : Nat → Int) (base : Int) (i : Nat) : Prop := (f i = 95 → i ≠ 0 ∧ f (i - 1) ≠ 95) ∧ (f i ≠ 95 → digOk base (f i))

def Digits (f : Nat → Int) (n : Nat) (base : Int) : Prop := 0 < n ∧ ∀ i, i < n → good f n base i

theorem digits_iff (f : Nat → Int) (n : Nat) (base : Int) : Digits f n base ↔ 0 < n ∧ (∀ i, i < n → fits f base i) ∧ f (n - 1) ≠ 95 := by
  constructor
  · rintro ⟨h0, h⟩
    refine ⟨h0, fun i hi => ⟨fun e => ⟨((h i hi).1 e).1, fun e1 => ?_⟩, (h i hi).2⟩, fun e => ?_⟩
    · have h2 := ((h i hi).1 e).1
      have h3 := ((h (i - 1) (by omega)).1 e1).2.2
      rw [show i - 1 + 1 = i from by omega] at h3
      exact h3 e
    · have := ((h (n - 1) (by omega)).1 e).2.1
      omega
  · rintro ⟨h0, h, hl⟩
    refine ⟨h0, fun i hi => ⟨fun e => ⟨((h i hi).1 e).1, fun e1 => ?_, fun e1 => ?_⟩, (h i hi).2⟩⟩
    · rw [show n - 1 = i from by omega] at hl
      exact hl e
    · by_cases e2 : i + 1 = n
      · rw [show n - 1 = i from by omega] at hl
        exact hl e
      · have := ((h (i + 1) (by omega)).1 e1).2
        rw [show i + 1 - 1 = i from by omega] at this
        exact this e

theorem digits_bad {f : Nat → Int} {n : Nat} {base : Int} {k : Nat} (hk : k < n) (h : ¬ good f n base k) : ¬ Digits f n base := fun g => h (g.2 k hk)

/-- What the law's own scan holds behind k bytes. -/
def Scan (f : Nat → Int) (n : Nat) (base : Int) (k : Nat) (x : Bool) (gr : Int) : Prop :=
  0 ≤ gr ∧ gr ≤ k ∧ (x = true → 0 < n ∧ (∀ i, i < k → fits f base i) ∧ (gr = 0 ↔ (k = 0 ∨ f (k - 1) = 95))) ∧ (x = false → ¬ Digits f n base)

theorem Scan.start (f : Nat → Int) (n : Nat) (base : Int) : Scan f n base 0 (decide (0 < n)) 0 := by
  refine ⟨by omega, by omega, fun h => ?_, fun h => ?_⟩
  · have : 0 < n := by simpa using h
    exact ⟨this, fun i hi => absurd hi (by omega), by simp⟩
  · intro g
    have := g.1
    simp at h
    omega

theorem Scan.bar0 {f : Nat → Int} {n : Nat} {base : Int} {k : Nat} {gr : Int} (h : Scan f n base k true gr) (hk : k < n) (e : f k = 95) (g : gr = 0) : Scan f n base (k + 1) false 0 := by
  refine ⟨by omega, by omega, (by simp), fun _ d => ?_⟩
  have hf := ((digits_iff f n base).1 d).2.1 k hk
  have h1 := (h.2.2.1 rfl).2.2.1 g
  obtain ⟨a, b⟩ := hf.1 e
  rcases h1 with h1 | h1
  · exact a h1
  · exact b h1

theorem Scan.bar {f : Nat → Int} {n : Nat} {base : Int} {k : Nat} {gr : Int} (h : Scan f n base k true gr) (e : f k = 95) (g : gr ≠ 0) : Scan f n base (k + 1) true 0 := by
  obtain ⟨h0, h1, h2, _⟩ := h
  obtain ⟨p0, p1, p2⟩ := h2 rfl
  refine ⟨by omega, by omega, fun _ => ⟨p0, fun i hi => ?_, by simp [e]⟩, fun h => by cases h⟩
  by_cases q : i = k
  · subst q
    exact ⟨fun _ => ⟨fun e0 => g (p2.2 (.inl e0)), fun e0 => g (p2.2 (.inr e0))⟩, fun e0 => absurd e e0⟩
  · exact p1 i (by omega)

theorem Scan.digBad {f : Nat → Int} {n : Nat} {base : Int} {k : Nat} {gr : Int} (h : Scan f n base k true gr) (hk : k < n) (e : f k ≠ 95) (d : ¬ digOk base (f k)) : Scan f n base (k + 1) false (gr + 1) := by
  obtain ⟨h0, h1, _, _⟩ := h
  refine ⟨by omega, by omega, (by simp), fun _ g => ?_⟩
  exact d ((g.2 k hk).2 e)

theorem Scan.dig {f : Nat → Int} {n : Nat} {base : Int} {k : Nat} {gr : Int} (h : Scan f n base k true gr) (e : f k ≠ 95) (d : digOk base (f k)) : Scan f n base (k + 1) true (gr + 1) := by
  obtain ⟨h0, h1, h2, _⟩ := h
  obtain ⟨p0, p1, p2⟩ := h2 rfl
  refine ⟨by omega, by omega, fun _ => ⟨p0, fun i hi => ?_, ?_⟩, fun h => by cases h⟩
  · by_cases q : i = k
    · subst q
      exact ⟨fun e0 => absurd e0 e, fun _ => d⟩
    · exact p1 i (by omega)
  · constructor
    · intro g; omega
    · rintro (g | g)
      · omega
      · rw [show k + 1 - 1 = k from by omega] at g
        exact absurd g e

theorem Scan.end0 {f : Nat → Int} {n : Nat} {base : Int} {gr : Int} (h : Scan f n base n true gr) (g : gr = 0) : ¬ Digits f n base := by
  obtain ⟨_, _, h2, _⟩ := h
  obtain ⟨p0, p1, p2⟩ := h2 rfl
  intro d
  have := ((digits_iff _ _ _).1 d).2.2
  rcases p2.1 g with q | q
  · omega
  · exact this q

theorem Scan.end1 {f : Nat → Int} {n : Nat} {base : Int} {gr : Int} (h : Scan f n base n true gr) (g : gr ≠ 0) : Digits f n base := by
  obtain ⟨_, _, h2, _⟩ := h
  obtain ⟨p0, p1, p2⟩ := h2 rfl
  exact (digits_iff _ _ _).2 ⟨p0, p1, fun e => g (p2.2 (.inr e))⟩

end Go.Proofs.Qxb6602464a
