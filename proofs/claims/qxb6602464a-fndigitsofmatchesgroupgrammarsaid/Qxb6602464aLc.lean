/-
  Seat b6602464a. The law 'FnDigitsOfMatchesGroupGrammar', walked out of its callees' contracts.
-/
import Derived.Test.Qxb6602464aWc
namespace Go.Proofs.Qxb6602464a
open Go.RowKit

set_option maxHeartbeats 400000 in
theorem bytes13 (s : ByteArray) (base : Int) (w : World) (hl : s.size ≤ maxLen) :
    Calls Try.prog 13 #[.string s, .int .i64 base] w fun e w' => e = .returned (.bool (decide ((s.size : Int) ≤ 1048576))) ∧ w' = w := by
  unfold maxLen at hl
  by_cases h1 : (1048576 : Int) < s.size
  · go_enter Try.func13, Try.ntmps13
    go_wp2
    go_ret
    exact ⟨ret_bool (by simp; omega), rfl⟩
  · go_enter Try.func13, Try.ntmps13
    go_wp2
    go_ret
    exact ⟨ret_bool (by simp), rfl⟩

theorem hexVal_no (c : Int) (w : World) (h : hx c = -1) : Calls Try.prog 10 #[.int .u8 c] w fun e w' => e = .returned (.tuple #[.int .i32 0, .bool false]) ∧ w' = w := by
  refine (hexVal_any c w).mono ?_
  rintro e w' ⟨⟨_, rfl⟩ | ⟨h2, _⟩, rfl⟩
  · exact ⟨rfl, rfl⟩
  · omega

theorem hexVal_yes (c : Int) (w : World) (h : 0 ≤ hx c) : Calls Try.prog 10 #[.int .u8 c] w fun e w' => e = .returned (.tuple #[.int .i32 (hx c), .bool true]) ∧ w' = w := by
  refine (hexVal_any c w).mono ?_
  rintro e w' ⟨⟨h2, _⟩ | ⟨h2, rfl⟩, rfl⟩
  · omega
  · exact ⟨rfl, rfl⟩

set_option maxHeartbeats 1000000 in
theorem lawDigits (s : ByteArray) (base : Int) (w : World) (hl : s.size ≤ maxLen) :
    Calls Try.prog 5 #[.string s, .int .i64 base] w fun e w' => e = .returned (.bool true) ∧ w' = w := by
  have hl' := hl
  unfold maxLen at hl'
  by_cases h1 : (1048576 : Int) < s.size
  · have hd : decide ((s.size : Int) ≤ 1048576) = false := by simp; omega
    go_enter Try.func5, Try.ntmps5
    go_wp2_with (go_at_call 13; refine (bytes13 s base _ hl).mono ?_; rintro e w' ⟨rfl, hww⟩; subst hww)
    go_ret
    exact ⟨rfl, rfl⟩
  · have hd : decide ((s.size : Int) ≤ 1048576) = true := by simp; omega
    have hd' : decide ((1048576 : Int) < s.size) = false := by simpa using h1
    go_enter Try.func5, Try.ntmps5
    go_wp2_with (go_at_call 13; refine (bytes13 s base _ hl).mono ?_; rintro e w' ⟨rfl, hww⟩; subst hww)
    refine (zzDigitsOf_any s base _ hl).mono ?_
    rintro e w1 ⟨⟨y, rfl, hy⟩, hw1⟩
    subst hw1
    have HY : Hid (y = true ↔ Digits (bt s) s.size base) := hy
    clear hy
    go_wp2_with fail
    go_loop [6, 7, 8] (fun t g i => ∃ (k : Nat) (x : Bool) (gr : Int), k ≤ s.size ∧ t = .bool x ∧ g = .int .i64 gr ∧ i = .int .i64 k ∧ Scan (bt s) s.size base k x gr) (fun _ _ i => s.size - (intOf i).toNat)
    case atStart => exact ⟨0, _, 0, Nat.zero_le _, rfl, rfl, rfl, Scan.start _ _ _⟩
    case round =>
      obtain ⟨k, x, gr, hk, rfl, rfl, rfl, hS⟩ := hrel
      have gr0 := hS.1
      have gr1 := hS.2.1
      cases x with
      | false =>
        have hy : y = false := by
          cases y
          · rfl
          · exact absurd (HY.out.1 rfl) (hS.2.2.2 rfl)
        subst hy
        by_cases hlt : (k : Int) < s.size
        · go_wp2
          go_ret
          exact ⟨rfl, rfl⟩
        · have dlt : decide ((k : Int) < s.size) = false := by simpa using hlt
          go_wp2
          go_ret
          exact ⟨rfl, rfl⟩
      | true =>
        by_cases hlt : k < s.size
        · have eb := bt_eq s k hlt
          obtain ⟨b0, b1⟩ := bt_bd s k
          have i1 : (k : Int) < (s.size : Int) := by omega
          by_cases h95 : bt s k = 95
          · have d95 : (bt s k == 95) = true := by simpa using h95
            have H95 : Hid (bt s k = 95) := h95
            clear h95
            by_cases hg : gr = 0
            · have dg : (gr == 0) = true := by simpa using hg
              have HG : Hid (gr = 0) := hg
              clear hg
              go_wp2
              go_round
              case rel => exact ⟨k + 1, false, 0, by omega, rfl, rfl, by go_num, hS.bar0 hlt H95 HG⟩
              case measure => simp [intOf]; omega
            · have dg : (gr == 0) = false := by simpa using hg
              have HG : Hid (gr ≠ 0) := hg
              clear hg
              go_wp2
              go_round
              case rel => exact ⟨k + 1, true, 0, by omega, rfl, rfl, by go_num, hS.bar H95 HG⟩
              case measure => simp [intOf]; omega
          · have d95 : (bt s k == 95) = false := by simpa using h95
            have H95 : Hid (bt s k ≠ 95) := h95
            clear h95
            by_cases hx1 : hx (bt s k) = -1
            · have HX : Hid (hx (bt s k) = -1) := hx1
              clear hx1
              go_wp2_with (go_at_call 10; refine (hexVal_no _ _ HX).mono ?_; rintro e w3 ⟨rfl, hw3⟩; subst hw3)
              go_round
              case rel => exact ⟨k + 1, false, gr + 1, by omega, rfl, rfl, by go_num, hS.digBad hlt H95 (fun d => by have := d.1; rw [HX.out] at this; omega)⟩
              case measure => simp [intOf]; omega
            · have x0 : 0 ≤ hx (bt s k) := by have := hx_ge (bt s k); omega
              have x1 := hx_lt (bt s k)
              clear hx1
              by_cases hb : base ≤ hx (bt s k)
              · go_wp2_with (go_at_call 10; refine (hexVal_yes _ _ x0).mono ?_; rintro e w3 ⟨rfl, hw3⟩; subst hw3)
                go_round
                case rel => exact ⟨k + 1, false, gr + 1, by omega, rfl, rfl, by go_num, hS.digBad hlt H95 (fun d => by have := d.2; omega)⟩
                case measure => simp [intOf]; omega
              · have db : decide (base ≤ hx (bt s k)) = false := by simpa using hb
                go_wp2_with (go_at_call 10; refine (hexVal_yes _ _ x0).mono ?_; rintro e w3 ⟨rfl, hw3⟩; subst hw3)
                go_round
                case rel => exact ⟨k + 1, true, gr + 1, by omega, rfl, rfl, by go_num, hS.dig H95 ⟨x0, by omega⟩⟩
                case measure => simp [intOf]; omega
        · have ek : k = s.size := by omega
          subst ek
          have dlt : decide ((s.size : Int) < s.size) = false := by simp
          by_cases hg : gr = 0
          · have hy : y = false := by
              cases y
              · rfl
              · exact absurd (HY.out.1 rfl) (hS.end0 hg)
            subst hy
            have dg : (gr == 0) = true := by simpa using hg
            clear hg
            go_wp2
            go_ret
            exact ⟨rfl, rfl⟩
          · have hy : y = true := HY.out.2 (hS.end1 hg)
            subst hy
            have dg : (gr == 0) = false := by simpa using hg
            clear hg
            go_wp2
            go_ret
            exact ⟨rfl, rfl⟩

end Go.Proofs.Qxb6602464a
