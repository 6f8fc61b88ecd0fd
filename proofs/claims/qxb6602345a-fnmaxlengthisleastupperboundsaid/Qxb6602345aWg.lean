/-
  Seat b6602345a. 'zzTokenLen', '(Type).length', '(Type).suffixLength', '(Types).MaxLength'.
-/
import Derived.Test.Qxb6602345aWa
import Derived.Deep.RegionWith
import Derived.Deep.DrawnRows
namespace Go.Proofs.Qxb6602345a
open Go.RowKit

attribute [local go_sem ↓] Go.wp_at_zero Go.wp_at_succ

/-- Does the row's checksum read 'crc32-base62'? -/
def isCrc (r : Rw) : Bool := r.cs.toList == [99, 114, 99, 51, 50, 45, 98, 97, 115, 101, 54, 50]

/-- The length of a token of the row. -/
def tokLen (r : Rw) : Int := wrap64 ((r.px.size : Int) + r.rl + if isCrc r then 6 else 0)

/-- The length of what follows the opening. -/
def sufLen (r : Rw) : Int := if isCrc r then wrap64 (r.rl + 6) else r.rl

theorem wrap_left (a b : Int) : wrap64 (wrap64 a + b) = wrap64 (a + b) := by unfold wrap64; omega
theorem wrap_right (a b : Int) : wrap64 (a + wrap64 b) = wrap64 (a + b) := by unfold wrap64; omega

theorem tokLen_no {r : Rw} (h : isCrc r = false) : wrap64 ((r.px.size : Int) + r.rl) = tokLen r := by simp [tokLen, h]
theorem tokLen_yes {r : Rw} (h : isCrc r = true) : wrap64 (wrap64 ((r.px.size : Int) + r.rl) + 6) = tokLen r := by rw [wrap_left]; simp [tokLen, h]
theorem tokLen_suf (r : Rw) : wrap64 ((r.px.size : Int) + sufLen r) = tokLen r := by
  unfold sufLen tokLen
  split
  · rw [wrap_right, Int.add_assoc]
  · rw [Int.add_zero]

theorem tokLen_suf' (r : Rw) : IntKind.i64.wrap ((r.px.size : Int) + sufLen r) = tokLen r := by
  rw [← tokLen_suf r, IntKind.wrap_i64]
  simp only [wrap64]

theorem ret_int {k : IntKind} {a b : Int} (h : a = b) : Ending.returned (.int k a) = .returned (.int k b) := by rw [h]

set_option maxHeartbeats 400000 in
theorem tokenLen_any (r : Rw) (w : World) :
    Calls Try.prog 24 #[r.val] w fun e w' => e = .returned (.int .i64 (tokLen r)) ∧ Below w.heap.size w w' := by
  cases hc : isCrc r with
  | false =>
    have hd : (r.cs.toList == [99, 114, 99, 51, 50, 45, 98, 97, 115, 101, 54, 50]) = false := hc
    go_enter Try.func24, Try.ntmps24
    go_wp2
    go_ret
    exact ⟨ret_int (tokLen_no hc), (Below.refl _ _).alloc (Nat.le_refl _) _⟩
  | true =>
    have hd : (r.cs.toList == [99, 114, 99, 51, 50, 45, 98, 97, 115, 101, 54, 50]) = true := hc
    go_enter Try.func24, Try.ntmps24
    go_wp2
    go_ret
    exact ⟨ret_int (tokLen_yes hc), (Below.refl _ _).alloc (Nat.le_refl _) _⟩

set_option maxHeartbeats 400000 in
theorem suffixLen_any (r : Rw) (w : World) :
    Calls Try.prog 29 #[r.val] w fun e w' => e = .returned (.int .i64 (sufLen r)) ∧ Below w.heap.size w w' := by
  cases hc : isCrc r with
  | false =>
    have hd : (r.cs.toList == [99, 114, 99, 51, 50, 45, 98, 97, 115, 101, 54, 50]) = false := hc
    go_enter Try.func29, Try.ntmps29
    go_wp2
    go_ret
    exact ⟨ret_int (by simp [sufLen, hc]), (Below.refl _ _).alloc (Nat.le_refl _) _⟩
  | true =>
    have hd : (r.cs.toList == [99, 114, 99, 51, 50, 45, 98, 97, 115, 101, 54, 50]) = true := hc
    go_enter Try.func29, Try.ntmps29
    go_wp2
    go_ret
    exact ⟨ret_int (by simp [sufLen, hc]), (Below.refl _ _).alloc (Nat.le_refl _) _⟩

set_option maxHeartbeats 1000000 in
theorem length_any (r : Rw) (w : World) :
    Calls Try.prog 27 #[r.val] w fun e w' => e = .returned (.int .i64 (tokLen r)) ∧ Below w.heap.size w w' := by
  go_enter Try.func27, Try.ntmps27
  go_wp2
  go_region_with (go_at_call 29; refine (suffixLen_any r _).mono ?_; rintro e w3 ⟨rfl, hb3⟩; have g1 := hb3.cell (p := ⟨w.heap.size, 1, none⟩) (by simp); simp [go_sem] at g1)
  all_goals
    go_wp2
    go_ret
    exact ⟨ret_int (tokLen_suf' r), (((Below.refl _ _).alloc (Nat.le_refl _) _).drew).trans (hb3.mono (by simp))⟩

/-- The greatest of 0 and the first k rows' lengths. -/
def maxTo (R : Nat → Rw) : Nat → Int
  | 0 => 0
  | k + 1 => if maxTo R k < tokLen (R k) then tokLen (R k) else maxTo R k

theorem maxTo_nonneg (R : Nat → Rw) (k : Nat) : 0 ≤ maxTo R k := by
  induction k with
  | zero => exact Int.le_refl _
  | succ k ih => simp only [maxTo]; split <;> omega

theorem maxTo_ge (R : Nat → Rw) (k j : Nat) (h : j < k) : tokLen (R j) ≤ maxTo R k := by
  induction k with
  | zero => omega
  | succ k ih =>
    simp only [maxTo]
    by_cases e : j = k
    · subst e; split <;> omega
    · have := ih (by omega)
      split <;> omega

theorem maxTo_hit (R : Nat → Rw) (k : Nat) : maxTo R k = 0 ∨ ∃ j, j < k ∧ tokLen (R j) = maxTo R k := by
  induction k with
  | zero => exact .inl rfl
  | succ k ih =>
    simp only [maxTo]
    split
    · exact .inr ⟨k, by omega, rfl⟩
    · rcases ih with h | ⟨j, hj, h⟩
      · exact .inl h
      · exact .inr ⟨j, by omega, h⟩

set_option maxHeartbeats 1000000 in
theorem maxLength_any (a : Option Addr) (len cap : Nat) (R : Nat → Rw) (w : World) (hl : len ≤ 65536) (ht : Tab w a len R) :
    Calls Try.prog 23 #[.slice a len cap] w fun e w' => e = .returned (.int .i64 (maxTo R len)) ∧ Below w.heap.size w w' := by
  go_enter Try.func23, Try.ntmps23
  go_wp2
  go_loopw [3, 8] (fun t i wr => ∃ k : Nat, k ≤ len ∧ t = .int .i64 (maxTo R k) ∧ i = .int .i64 k ∧ Below w.heap.size w wr) (fun _ i _ => len - (intOf i).toNat)
  case atStart => exact ⟨0, Nat.zero_le _, rfl, rfl, Below.refl _ _⟩
  case round =>
    obtain ⟨k, hk, rfl, rfl, hB⟩ := hrel
    by_cases hlt : k < len
    · obtain ⟨b, off, rfl, hb, hc⟩ := ht.later hB (Nat.le_refl _) (by omega)
      obtain ⟨c0, c1, c2, c3⟩ := hc k hlt
      clear hc
      go_wp2_with (go_at_call 27; refine (length_any (R k) _).mono ?_; rintro e w1 ⟨rfl, hb1⟩)
      go_roundw
      case rel => exact ⟨k + 1, by omega, rfl, by go_num, (hB.alloc hB.size _).trans (hb1.mono (by have := hB.size; simp; omega))⟩
      case measure => simp [intOf]; omega
    · go_wp2
      go_ret
      have e : k = len := by omega
      subst e
      exact ⟨rfl, hB⟩

end Go.Proofs.Qxb6602345a
