/-
  Seat b6602464a. 'digitsOf' and its shim.
-/
import Derived.Test.Qxb6602464aWa
import Derived.Test.Qxb6602464aPl
namespace Go.Proofs.Qxb6602464a
open Go.RowKit

theorem hx_dig {c : Int} (h : 48 ≤ c ∧ c ≤ 57) : hx c = c - 48 := by unfold hx; rw [if_pos h]
theorem hx_let {c : Int} (h : 97 ≤ c ∧ c ≤ 102) : hx c = c - 97 + 10 := by unfold hx; rw [if_neg (by omega), if_pos h]; omega
theorem hx_cap {c : Int} (h : 65 ≤ c ∧ c ≤ 70) : hx c = c - 65 + 10 := by unfold hx; rw [if_neg (by omega), if_neg (by omega), if_pos h]; omega
theorem hx_out {c : Int} (h1 : ¬ (48 ≤ c ∧ c ≤ 57)) (h2 : ¬ (97 ≤ c ∧ c ≤ 102)) (h3 : ¬ (65 ≤ c ∧ c ≤ 70)) : hx c = -1 := by unfold hx; rw [if_neg h1, if_neg h2, if_neg h3]

/-- What digitsOf returns. -/
def DigB (s : ByteArray) (base : Int) (e : Ending) : Prop := ∃ x : Bool, e = .returned (.bool x) ∧ (x = true ↔ Digits (bt s) s.size base)

theorem DigB.no {s : ByteArray} {base : Int} (h : ¬ Digits (bt s) s.size base) : DigB s base (.returned (.bool false)) := ⟨false, rfl, by simpa using h⟩
theorem DigB.yes {s : ByteArray} {base : Int} (h : Digits (bt s) s.size base) : DigB s base (.returned (.bool true)) := ⟨true, rfl, by simpa using h⟩

set_option maxHeartbeats 1000000 in
theorem digitsOf_any (s : ByteArray) (base : Int) (w : World) (hs : s.size ≤ maxLen) :
    Calls Try.prog 18 #[.string s, .int .i64 base] w fun e w' => DigB s base e ∧ w' = w := by
  unfold maxLen at hs
  by_cases h0 : s.toList = []
  · have hd0 : s.toList.isEmpty = true := by simpa using h0
    have hz : s.size = 0 := by
      rw [ByteArray.toList_eq] at h0
      have := congrArg List.length h0
      simpa using this
    go_enter Try.func18, Try.ntmps18
    go_wp2
    go_ret
    exact ⟨DigB.no (fun d => by have := d.1; omega), rfl⟩
  · have hd0 : s.toList.isEmpty = false := by simpa using h0
    have HZ : Hid (0 < s.size) := by
      rcases Nat.eq_zero_or_pos s.size with h | h
      · exfalso
        apply h0
        rw [ByteArray.toList_eq]
        exact List.eq_nil_of_length_eq_zero (by simpa using h)
      · exact h
    go_enter Try.func18, Try.ntmps18
    go_wp2
    go_loop [5] (fun i => ∃ k : Nat, k ≤ s.size ∧ i = .int .i64 k ∧ Hid (∀ j, j < k → good (bt s) s.size base j)) (fun i => s.size - (intOf i).toNat)
    case atStart => exact ⟨0, Nat.zero_le _, rfl, fun j hj => absurd hj (by omega)⟩
    case round =>
      obtain ⟨k, hk, rfl, hN⟩ := hrel
      by_cases hlt : k < s.size
      · have eb := bt_eq s k hlt
        obtain ⟨b0, b1⟩ := bt_bd s k
        have i1 : (k : Int) < (s.size : Int) := by omega
        by_cases h95 : bt s k = 95
        · have d95 : (bt s k == 95) = true := by simpa using h95
          have H95 : Hid (bt s k = 95) := h95
          clear h95
          by_cases hk0 : k = 0
          · subst hk0
            go_wp2
            go_ret
            exact ⟨DigB.no (digits_bad hlt (fun g => (g.1 H95).1 rfl)), rfl⟩
          · by_cases hk1 : k + 1 = s.size
            · have dk1 : ((k : Int) == (s.size : Int) - 1) = true := by simp; omega
              go_wp2
              go_ret
              exact ⟨DigB.no (digits_bad hlt (fun g => (g.1 H95).2.1 hk1)), rfl⟩
            · have dk1 : ((k : Int) == (s.size : Int) - 1) = false := by simp; omega
              have hlt2 : k + 1 < s.size := by omega
              have eb2 := bt_eq s (k + 1) hlt2
              by_cases h952 : bt s (k + 1) = 95
              · have d952 : (bt s (k + 1) == 95) = true := by simpa using h952
                have H952 : Hid (bt s (k + 1) = 95) := h952
                clear h952
                go_wp2
                go_ret
                exact ⟨DigB.no (digits_bad hlt (fun g => (g.1 H95).2.2 H952)), rfl⟩
              · have d952 : (bt s (k + 1) == 95) = false := by simpa using h952
                have H952 : Hid (bt s (k + 1) ≠ 95) := h952
                clear h952
                go_wp2
                go_round
                case rel => exact ⟨k + 1, by omega, by go_num, fun j hj => if e : j = k then e ▸ ⟨fun _ => ⟨hk0, hk1, H952⟩, fun e => absurd H95 e⟩ else hN j (by omega)⟩
                case measure => simp [intOf]; omega
        · have d95 : (bt s k == 95) = false := by simpa using h95
          have H95 : Hid (bt s k ≠ 95) := h95
          clear h95
          by_cases g1 : 48 ≤ bt s k ∧ bt s k ≤ 57
          · have dd : isDig (bt s k) = true := by simpa [isDig] using g1
            have e1 := hx_dig g1
            have HE : Hid (hx (bt s k) = bt s k - 48) := e1
            clear e1
            obtain ⟨g1, g1'⟩ := g1
            by_cases hbs : base ≤ bt s k - 48
            · go_wp2_with (go_at_call 19; refine (isDigit_any _ _).mono ?_; rintro e w1 ⟨rfl, hw1⟩; subst hw1)
              go_ret
              exact ⟨DigB.no (digits_bad hlt (fun g => by have := (g.2 H95).2; rw [HE.out] at this; omega)), rfl⟩
            · have dbs : decide (base ≤ bt s k - 48) = false := by simpa using hbs
              go_wp2_with (go_at_call 19; refine (isDigit_any _ _).mono ?_; rintro e w1 ⟨rfl, hw1⟩; subst hw1)
              go_round
              case rel => exact ⟨k + 1, by omega, by go_num, fun j hj => if e : j = k then e ▸ ⟨fun e => absurd e H95, fun _ => ⟨by rw [HE.out]; omega, by rw [HE.out]; omega⟩⟩ else hN j (by omega)⟩
              case measure => simp [intOf]; omega
          · have dd : isDig (bt s k) = false := by simpa [isDig] using g1
            by_cases g2 : 97 ≤ bt s k ∧ bt s k ≤ 102
            · clear g1
              have e1 := hx_let g2
              have HE : Hid (hx (bt s k) = bt s k - 97 + 10) := e1
              clear e1
              obtain ⟨g2, g2'⟩ := g2
              by_cases hbs : base ≤ bt s k - 97 + 10
              · go_wp2_with (go_at_call 19; refine (isDigit_any _ _).mono ?_; rintro e w1 ⟨rfl, hw1⟩; subst hw1)
                go_ret
                exact ⟨DigB.no (digits_bad hlt (fun g => by have := (g.2 H95).2; rw [HE.out] at this; omega)), rfl⟩
              · have dbs : decide (base ≤ bt s k - 97 + 10) = false := by simpa using hbs
                go_wp2_with (go_at_call 19; refine (isDigit_any _ _).mono ?_; rintro e w1 ⟨rfl, hw1⟩; subst hw1)
                go_round
                case rel => exact ⟨k + 1, by omega, by go_num, fun j hj => if e : j = k then e ▸ ⟨fun e => absurd e H95, fun _ => ⟨by rw [HE.out]; omega, by rw [HE.out]; omega⟩⟩ else hN j (by omega)⟩
                case measure => simp [intOf]; omega
            · by_cases g3 : 65 ≤ bt s k ∧ bt s k ≤ 70
              · clear g1 g2
                have d3 : decide (97 ≤ bt s k) = false := by simp; omega
                have e1 := hx_cap g3
                have HE : Hid (hx (bt s k) = bt s k - 65 + 10) := e1
                clear e1
                obtain ⟨g3, g3'⟩ := g3
                by_cases hbs : base ≤ bt s k - 65 + 10
                · go_wp2_with (go_at_call 19; refine (isDigit_any _ _).mono ?_; rintro e w1 ⟨rfl, hw1⟩; subst hw1)
                  go_ret
                  exact ⟨DigB.no (digits_bad hlt (fun g => by have := (g.2 H95).2; rw [HE.out] at this; omega)), rfl⟩
                · have dbs : decide (base ≤ bt s k - 65 + 10) = false := by simpa using hbs
                  go_wp2_with (go_at_call 19; refine (isDigit_any _ _).mono ?_; rintro e w1 ⟨rfl, hw1⟩; subst hw1)
                  go_round
                  case rel => exact ⟨k + 1, by omega, by go_num, fun j hj => if e : j = k then e ▸ ⟨fun e => absurd e H95, fun _ => ⟨by rw [HE.out]; omega, by rw [HE.out]; omega⟩⟩ else hN j (by omega)⟩
                  case measure => simp [intOf]; omega
              · have HE : Hid (hx (bt s k) = -1) := hx_out g1 g2 g3
                have HG : Hid (¬ (97 ≤ bt s k ∧ bt s k ≤ 102) ∧ ¬ (65 ≤ bt s k ∧ bt s k ≤ 70)) := ⟨g2, g3⟩
                clear g1 g2 g3
                go_wp2_with (go_at_call 19; refine (isDigit_any _ _).mono ?_; rintro e w1 ⟨rfl, hw1⟩; subst hw1)
                all_goals first
                  | (go_ret; exact ⟨DigB.no (digits_bad hlt (fun g => by have := (g.2 H95).1; rw [HE.out] at this; omega)), rfl⟩)
                  | (have := HG.out; omega)
      · go_wp2
        go_ret
        exact ⟨DigB.yes ⟨HZ, fun j hj => hN j (by omega)⟩, rfl⟩

set_option maxHeartbeats 400000 in
theorem zzDigitsOf_any (s : ByteArray) (base : Int) (w : World) (hs : s.size ≤ maxLen) :
    Calls Try.prog 14 #[.string s, .int .i64 base] w fun e w' => DigB s base e ∧ w' = w := by
  go_enter Try.func14, Try.ntmps14
  go_wp2_with fail
  refine (digitsOf_any s base _ hs).mono ?_
  rintro e w1 ⟨⟨x, rfl, hx⟩, hw1⟩
  subst hw1
  have HX : Hid (x = true ↔ Digits (bt s) s.size base) := hx
  clear hx
  go_wp2
  go_ret
  exact ⟨⟨x, rfl, HX⟩, rfl⟩

end Go.Proofs.Qxb6602464a
