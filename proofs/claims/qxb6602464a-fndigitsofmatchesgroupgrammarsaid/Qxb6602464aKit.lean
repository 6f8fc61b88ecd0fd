/-
  Seat b6602464a. Hexadecimal digits, said plainly.
-/
import Derived.Test.Qxb6602464aRows
import Derived.WalkKit
import Derived.WalkSpells
import Derived.WalkLawsBesides
namespace Go.Proofs.Qxb6602464a
open Go.RowKit

/-- The value of a byte as a hexadecimal digit of either case; -1 where it is none. -/
def hx (c : Int) : Int := if 48 ≤ c ∧ c ≤ 57 then c - 48 else if 97 ≤ c ∧ c ≤ 102 then c - 87 else if 65 ≤ c ∧ c ≤ 70 then c - 55 else -1

def lowAt (k : Nat) : Int := if k < 10 then 48 + k else 87 + k
def upAt (k : Nat) : Int := if k < 10 then 48 + k else 55 + k

theorem hx_low {k : Nat} (hk : k < 16) : hx (lowAt k) = k := by
  unfold hx lowAt
  by_cases h : k < 10
  · rw [if_pos h, if_pos (by omega)]; omega
  · rw [if_neg h, if_neg (by omega), if_pos (by omega)]; omega

theorem hx_up {k : Nat} (hk : k < 16) : hx (upAt k) = k := by
  unfold hx upAt
  by_cases h : k < 10
  · rw [if_pos h, if_pos (by omega)]; omega
  · rw [if_neg h, if_neg (by omega), if_neg (by omega), if_pos (by omega)]; omega

theorem hx_none {c : Int} (h : ∀ j, j < 16 → lowAt j ≠ c ∧ upAt j ≠ c) : hx c = -1 := by
  unfold hx
  split
  · rename_i h1
    have := (h (c - 48).toNat (by omega)).1
    unfold lowAt at this
    split at this <;> omega
  · split
    · rename_i h1
      have := (h (c - 87).toNat (by omega)).1
      unfold lowAt at this
      split at this <;> omega
    · split
      · rename_i h1
        have := (h (c - 55).toNat (by omega)).2
        unfold upAt at this
        split at this <;> omega
      · rfl

theorem hx_ge (c : Int) : -1 ≤ hx c := by unfold hx; split; omega; split; omega; split <;> omega
theorem hx_lt (c : Int) : hx c < 16 := by unfold hx; split; omega; split; omega; split <;> omega

theorem low_tab (k : Nat) (h : k < (⟨#[48, 49, 50, 51, 52, 53, 54, 55, 56, 57, 97, 98, 99, 100, 101, 102]⟩ : ByteArray).size) :
    (((⟨#[48, 49, 50, 51, 52, 53, 54, 55, 56, 57, 97, 98, 99, 100, 101, 102]⟩ : ByteArray)[k]'h).toNat : Int) = lowAt k := by
  have hk : k < 16 := h
  match k, h, hk with
  | 0, _, _ | 1, _, _ | 2, _, _ | 3, _, _ | 4, _, _ | 5, _, _ | 6, _, _ | 7, _, _ | 8, _, _ | 9, _, _ | 10, _, _ | 11, _, _ | 12, _, _ | 13, _, _ | 14, _, _ | 15, _, _ => rfl
  | n + 16, _, hk => omega

theorem up_tab (k : Nat) (h : k < (⟨#[48, 49, 50, 51, 52, 53, 54, 55, 56, 57, 65, 66, 67, 68, 69, 70]⟩ : ByteArray).size) :
    (((⟨#[48, 49, 50, 51, 52, 53, 54, 55, 56, 57, 65, 66, 67, 68, 69, 70]⟩ : ByteArray)[k]'h).toNat : Int) = upAt k := by
  have hk : k < 16 := h
  match k, h, hk with
  | 0, _, _ | 1, _, _ | 2, _, _ | 3, _, _ | 4, _, _ | 5, _, _ | 6, _, _ | 7, _, _ | 8, _, _ | 9, _, _ | 10, _, _ | 11, _, _ | 12, _, _ | 13, _, _ | 14, _, _ | 15, _, _ => rfl
  | n + 16, _, hk => omega

theorem ret_bool {a b : Bool} (h : a = b) : Ending.returned (.bool a) = .returned (.bool b) := by rw [h]

/-- A decimal digit. -/
def isDig (c : Int) : Bool := decide (48 ≤ c ∧ c ≤ 57)

end Go.Proofs.Qxb6602464a
