/-
  Seat b6602464a. 'hexVal', 'isDigit'.
-/
import Derived.Test.Qxb6602464aKit
namespace Go.Proofs.Qxb6602464a
open Go.RowKit

/-- What hexVal returns. -/
def HexB (c : Int) (e : Ending) : Prop := (hx c = -1 ∧ e = .returned (.tuple #[.int .i32 0, .bool false])) ∨ (0 ≤ hx c ∧ e = .returned (.tuple #[.int .i32 (hx c), .bool true]))

theorem HexB.low {k : Nat} {c : Int} (hk : k < 16) (h : lowAt k = c) : HexB c (.returned (.tuple #[.int .i32 k, .bool true])) := by
  subst h
  exact .inr ⟨by rw [hx_low hk]; omega, by rw [hx_low hk]⟩
theorem HexB.up {k : Nat} {c : Int} (hk : k < 16) (h : upAt k = c) : HexB c (.returned (.tuple #[.int .i32 k, .bool true])) := by
  subst h
  exact .inr ⟨by rw [hx_up hk]; omega, by rw [hx_up hk]⟩

set_option maxHeartbeats 400000 in
theorem hexVal_any (c : Int) (w : World) :
    Calls Try.prog 10 #[.int .u8 c] w fun e w' => HexB c e ∧ w' = w := by
  go_enter Try.func10, Try.ntmps10
  go_wp2
  go_loop [4] (fun i => ∃ k : Nat, k ≤ 16 ∧ i = .int .i64 k ∧ Hid (∀ j, j < k → lowAt j ≠ c ∧ upAt j ≠ c)) (fun i => 16 - (intOf i).toNat)
  case atStart => exact ⟨0, Nat.zero_le _, rfl, fun j hj => absurd hj (by omega)⟩
  case round =>
    obtain ⟨k, hk, rfl, hN⟩ := hrel
    by_cases hlt : k < 16
    · have i1 : (k : Int) < 16 := by omega
      have e1 := low_tab k hlt
      have e2 := up_tab k hlt
      by_cases hL : lowAt k = c
      · have hd : (lowAt k == c) = true := by simpa using hL
        have HL : Hid (lowAt k = c) := hL
        clear hL
        go_wp2
        go_ret2
        exact ⟨HexB.low hlt HL, rfl⟩
      · have hd : (lowAt k == c) = false := by simpa using hL
        by_cases hU : upAt k = c
        · have hd2 : (upAt k == c) = true := by simpa using hU
          have HL : Hid (upAt k = c) := hU
          clear hL hU
          go_wp2
          go_ret2
          exact ⟨HexB.up hlt HL, rfl⟩
        · have hd2 : (upAt k == c) = false := by simpa using hU
          have HL : Hid (lowAt k ≠ c ∧ upAt k ≠ c) := ⟨hL, hU⟩
          clear hL hU
          go_wp2
          go_round
          case rel => exact ⟨k + 1, by omega, by go_num, fun j hj => if e : j = k then e ▸ HL else hN j (by omega)⟩
          case measure => simp [intOf]; omega
    · go_wp2
      go_ret2
      exact ⟨.inl ⟨hx_none (fun j hj => hN j (by omega)), rfl⟩, rfl⟩

set_option maxHeartbeats 400000 in
theorem isDigit_any (c : Int) (w : World) :
    Calls Try.prog 19 #[.int .u8 c] w fun e w' => e = .returned (.bool (isDig c)) ∧ w' = w := by
  by_cases h1 : 48 ≤ c
  · by_cases h2 : c ≤ 57
    · go_enter Try.func19, Try.ntmps19
      go_wp2
      go_ret
      exact ⟨ret_bool (by simp [isDig, h1, h2]), rfl⟩
    · have d2 : decide (c ≤ 57) = false := by simpa using h2
      go_enter Try.func19, Try.ntmps19
      go_wp2
      go_ret
      exact ⟨ret_bool (by simp [isDig]; omega), rfl⟩
  · have d1 : decide (48 ≤ c) = false := by simpa using h1
    go_enter Try.func19, Try.ntmps19
    go_wp2
    go_ret
    exact ⟨ret_bool (by simp [isDig]; omega), rfl⟩

end Go.Proofs.Qxb6602464a
